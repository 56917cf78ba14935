/-
  The contract of Run32: as Run64, with the functions for uint32s.
-/
import Derived.Test.YtjciefonlhhoaaaRun
import Derived.Test.YtjciefonlhhoaaaOwn
namespace Go.Proofs.Ytjciefonlhhoaaa
set_option linter.unusedVariables false
set_option linter.unusedSimpArgs false
open Go.RowKit

/-- A list of words of 32 bits as cells. -/
def U32 (xs : List (BitVec 32)) : List Value := xs.map fun x => .int .u32 (x.toNat : Int)
section
variable {xs ys : List (BitVec 32)} {i : Nat}
@[simp] theorem U32_length : (U32 xs).length = xs.length := by simp [U32]
@[simp] theorem U32_nil : U32 [] = [] := rfl
theorem U32_append : U32 (xs ++ ys) = U32 xs ++ U32 ys := by simp [U32]
theorem U32_snoc (x : BitVec 32) : U32 (xs ++ [x]) = U32 xs ++ [.int .u32 (x.toNat : Int)] := by simp [U32]
theorem U32_get (h : i < xs.length) : (U32 xs)[i]? = some (.int .u32 (xs[i].toNat : Int)) := by simp [U32, h]
theorem U32_set (x : BitVec 32) : (U32 xs).set i (.int .u32 (x.toNat : Int)) = U32 (xs.set i x) := by simp [U32, List.map_set]
theorem U32_one : ∀ u ∈ U32 xs, u.oneCell' = true := by
  intro u hu
  obtain ⟨_, _, rfl⟩ := List.mem_map.1 hu
  rfl
end
theorem info32 : (Try.prog.info? 29).map (fun i => (i.zero, i.size, i.bytes)) = some (some (.int .u32 0), 1, 4) := by kernel_rfl
section
variable {w : World} {ops : Array Oper} {rest : List Oper} {o : Oper} {a : Act} {Q : Exit → Act → World → Prop} {B : Nat} (p q : List Row) {ra : Option Addr} {n rc : Nat} {xs : List Value} {v : Value} (s x : Operand)
theorem app32s (hgd : o.guard = none) (ho : o.op = .call { callee := .builtin .append, args := #[s, x], argTypes := #[27, 27] }) (sz : Nat) (hsz : w.heap.size = sz) (hs : a.eval s = .slice ra n rc) (hx : a.eval x = .slice (some ⟨sz, 0, none⟩) 1 1)
    (hown : Owns w B (p ++ ⟨29, ra, n, rc, xs⟩ :: q)) (hv : v.oneCell' = true) (hn : n < 17592186043904) (hB : B ≤ sz)
    (h : ∀ a' c' w', Owns w' B (p ++ ⟨29, a', n + 1, c', xs ++ [v]⟩ :: q) → Below B w w' → sz ≤ w'.heap.size → wpList Try.prog ops Q rest (a.put o.dst (.slice a' (n + 1) c')) w') :
    wpList Try.prog ops Q (o :: rest) a (w.alloc (.cells #[v] 29)) :=
  wpList_append1s Try.underlying27 info32 rfl (by decide) p q s x sz hsz hgd ho hs hx hown hv (by omega) hB h
end
theorem at_u32 {w0 w : World} {B : Nat} {a : Option Addr} {xs : List (BitVec 32)} (h : Rd w0 a (U32 xs)) (hb : Below B w0 w) (hB : w0.heap.size ≤ B) {k : Nat} (hk : k < xs.length) :
    ∃ b off, a = some ⟨b, off, none⟩ ∧ w.cell? ⟨b, off + k, none⟩ = some (.int .u32 (xs[k].toNat : Int)) := by
  obtain ⟨b, off, he, hc⟩ := (h.mono hb hB) k (by simpa using hk)
  exact ⟨b, off, he, by rw [hc, U32_get hk]⟩
theorem Owns.get32 {w : World} {B : Nat} {L : List Row} {e : TypeId} {b n c k : Nat} {xs : List (BitVec 32)} (h : Owns w B L) (i : Nat) (hi : L[i]? = some ⟨e, some ⟨b, 0, none⟩, n, c, U32 xs⟩) (hk : k < xs.length) : w.cell? ⟨b, k, none⟩ = some (.int .u32 (xs[k].toNat : Int)) := by
  obtain ⟨b', hb, hc, _⟩ := h.cellAt i hi (j := k) (by simpa using hk)
  simp only [Option.some.injEq, Addr.mk.injEq, and_true] at hb
  subst hb
  rw [hc, U32_get hk]

/-! Numbers -/
theorem u32_add (x y : BitVec 32) : IntKind.u32.wrap ((x.toNat : Int) + (y.toNat : Int)) = ((x + y).toNat : Int) := by
  rw [IntKind.wrap_u32, BitVec.toNat_add]
  omega
theorem u32_bits (r : BitVec 32) : IntKind.u32.wrap (r.toNat : Int) = (r.toNat : Int) := by
  rw [IntKind.wrap_u32]
  have := r.isLt
  omega
theorem u32_of (x : BitVec 32) : BitVec.ofInt 32 (x.toNat : Int) = x := by simp
theorem run_add_u32 {P : Program} (x y : BitVec 32) (w : World) : (Op.intArith .add .u32 (x.toNat : Int) (y.toNat : Int)).run P w = .ok (.int .u32 ((x + y).toNat : Int)) w := by
  simp only [Op.intArith, u32_add]
  rfl
theorem run_and_u32 {P : Program} (x y : BitVec 32) (w : World) : (Op.intBits .and .u32 (x.toNat : Int) (y.toNat : Int)).run P w = .ok (.int .u32 ((x &&& y).toNat : Int)) w := by
  show Sem.run P (pure (Value.int .u32 (IntKind.u32.wrap ((BitVec.ofInt 32 (x.toNat : Int) &&& BitVec.ofInt 32 (y.toNat : Int)).toNat : Int)))) w = _
  rw [u32_of, u32_of, u32_bits]
  rfl
theorem run_or_u32 {P : Program} (x y : BitVec 32) (w : World) : (Op.intBits .or .u32 (x.toNat : Int) (y.toNat : Int)).run P w = .ok (.int .u32 ((x ||| y).toNat : Int)) w := by
  show Sem.run P (pure (Value.int .u32 (IntKind.u32.wrap ((BitVec.ofInt 32 (x.toNat : Int) ||| BitVec.ofInt 32 (y.toNat : Int)).toNat : Int)))) w = _
  rw [u32_of, u32_of, u32_bits]
  rfl

theorem rel_step32 {w : World} {B n c k d cl : Nat} {x y : Option Addr} {st S A : List (BitVec 32)} {sc : List (Call 32)} {κ : BitVec 8} {u v : BitVec 32} (h : k < sc.length) (hS : (runL st (sc.take k)).2 = S) (hA : (runL st (sc.take k)).1 = A)
    (hc : sc[k] = ⟨κ, cl, u, v⟩) {o ans new : BitVec 32} (hO : S.getD cl 0 = o) (hs : (⟨κ, cl, u, v⟩ : Call 32).step o = (ans, new)) {L : List Value} (hL : L = U32 (S.set cl new))
    (ho : Owns w B [⟨29, x, n, c, L⟩, ⟨29, y, k + 1, d, U32 A ++ [.int .u32 (ans.toNat : Int)]⟩]) :
    Owns w B [⟨29, x, n, c, U32 (runL st (sc.take (k + 1))).2⟩, ⟨29, y, k + 1, d, U32 (runL st (sc.take (k + 1))).1⟩] := by
  subst hL
  rw [runL_take_succ h, hc, hS, hA, hO, hs]
  simpa [U32_snoc] using ho
theorem set_same32 {st : List (BitVec 32)} {j : Nat} : st.set j (st.getD j 0) = st := by
  by_cases h : j < st.length
  · simp [h]
  · exact List.set_eq_of_length_le (by omega)

set_option maxHeartbeats 3200000 in
set_option maxRecDepth 100000 in
theorem run32_any (w : World) (a0 a1 a2 a3 a4 : Option Addr) (c0 c1 c2 c3 c4 n m : Nat) (st : List (BitVec 32)) (sc : List (Call 32)) (hst : st.length = n) (hsc : sc.length = m) (hnil : a0 = none → c0 = 0)
    (r0 : Rd w a0 (U32 st)) (r1 : Rd w a1 (U8 (kindsOf sc))) (r2 : Rd w a2 (NI (cellsOf sc))) (r3 : Rd w a3 (U32 (asOf sc))) (r4 : Rd w a4 (U32 (bsOf sc)))
    (bn : n ≤ 17592186043904) (bm : m ≤ 17592186043904) (hcell : ∀ c ∈ sc, c.cell < n) :
    Calls Try.prog 9 #[.slice a0 n c0, .slice a1 m c1, .slice a2 m c2, .slice a3 m c3, .slice a4 m c4] w (Two w 29 29 m n (U32 (runL st sc).1) (U32 (runL st sc).2)) := by
  obtain ⟨i0, hi, hz0, hz1, hz2⟩ := info_parts info32
  have Hst := Lib.hid hst; have Hsc := Lib.hid hsc; have HC := Lib.hid hcell
  have hx' := Lib.hid (Rd.mono r0 ((Below.refl w.heap.size w).alloc (Nat.le_refl _) (.cells #[] 29)) (Nat.le_refl _))
  have ho0 := Lib.hid (Owns.made (Owns.nil w w.heap.size) (Nat.le_refl _) 29 #[] (by simp))
  have hn0 : a0 = none → n = 0 ∧ c0 = 0 := by
    intro h
    refine ⟨?_, hnil h⟩
    subst h
    by_cases h0 : n = 0
    · exact h0
    · obtain ⟨_, _, h', _⟩ := r0.at_ (by simp; omega)
      simp at h'
  have HN0 := Lib.hid hn0
  have H1 := Lib.hid r1; have H2 := Lib.hid r2; have H3 := Lib.hid r3; have H4 := Lib.hid r4
  clear hst hsc hcell r0 r1 r2 r3 r4 hn0 hnil
  go_enter Try.func9, Try.ntmps9
  go_wp2_with (at_builtin; refine wpList_append_at _ rfl _ _ 27 rfl 29 i0 (.int .u32 0) 4 Try.underlying27 hi hz0 hz1 hz2 rfl (by decide) w.heap.size [] [] _ rfl rfl ho0.out a0 n c0 (U32 st) rfl (by simp [Hst.out]) HN0.out hx'.out U32_one (by simp; omega) (by simp) ?_)
  intro ea ec w1 ho1 hb1
  have HB1 := Lib.hid (((Below.refl w.heap.size w).alloc (Nat.le_refl _) (.cells #[] 29)).trans hb1)
  have HO1 : Hid (Owns w1 w.heap.size [⟨29, ea, n, ec, U32 st⟩]) := by refine Lib.hid ?_; simpa using ho1
  have hs1 := HB1.out.size
  have hp := Lib.hid (HO1.out.made hs1 29 #[] (by simp))
  have hbp := Lib.hid (HB1.out.alloc hs1 (.cells #[] 29))
  have en : (0 : Nat) + n = n := Nat.zero_add n
  have en2 : (#[] : Array Value).size + n = n := Nat.zero_add n
  try rw [en2]
  clear ho1 hb1 HB1 HO1 hx' ho0 HN0 hi hz0 hz1 hz2
  go_wp2
  go_loopw [25, 13] (fun i v wr => ∃ (k : Nat) (a : Option Addr) (c : Nat), k ≤ m ∧ i = .int .i64 k ∧ v = .slice a k c ∧ Owns wr w.heap.size [⟨29, ea, n, ec, U32 (runL st (sc.take k)).2⟩, ⟨29, a, k, c, U32 (runL st (sc.take k)).1⟩] ∧ Below w.heap.size w wr) (fun i _ _ => m - (intOf i).toNat)
  case atStart => exact ⟨0, _, _, Nat.zero_le _, rfl, rfl, by simpa [runL] using hp.out, hbp.out⟩
  case round =>
    clear hp hbp
    obtain ⟨k, a, c, hk, rfl, rfl, ho, hb⟩ := hrel
    have hsz := hb.size
    by_cases hlt : k < m
    · have lx : k < sc.length := by rw [Hsc.out]; exact hlt
      obtain ⟨κ, cl, x, y, hcall⟩ : ∃ κ cl x y, sc[k] = ⟨κ, cl, x, y⟩ := ⟨_, _, _, _, rfl⟩
      have hcn : cl < n := by have := HC.out _ (List.getElem_mem lx); rw [hcall] at this; exact this
      obtain ⟨b1, o1, rfl, c1⟩ := at_u8 H1.out hb (Nat.le_refl _) (k := k) (by simpa [kindsOf] using lx)
      obtain ⟨b2, o2, rfl, c2⟩ := at_int H2.out hb (Nat.le_refl _) (k := k) (by simpa [cellsOf] using lx)
      obtain ⟨b3, o3, rfl, c3⟩ := at_u32 H3.out hb (Nat.le_refl _) (k := k) (by simpa [asOf] using lx)
      obtain ⟨b4, o4, rfl, c4⟩ := at_u32 H4.out hb (Nat.le_refl _) (k := k) (by simpa [bsOf] using lx)
      simp only [kindsOf, cellsOf, asOf, bsOf, List.getElem_map, hcall] at c1 c2 c3 c4
      generalize hS : (runL st (sc.take k)).2 = S at *
      generalize hA : (runL st (sc.take k)).1 = A at *
      have hcl : cl < S.length := by rw [← hS, runL_snd_length, Hst.out]; exact hcn
      obtain ⟨b0, rfl⟩ := ho.addr 0 rfl (k := cl) (by simpa using hcl)
      have q0 := ho.get32 0 rfl hcl
      have f0 := ho.free 0 rfl cl
      obtain ⟨o, hO⟩ : ∃ o, S[cl] = o := ⟨_, rfl⟩
      rw [hO] at q0
      have HK := Lib.hid hcall; have HS := Lib.hid hS; have HA := Lib.hid hA
      have HO : Hid (S.getD cl 0 = o) := by refine Lib.hid ?_; rw [← hO]; simp [hcl]
      have HSS : Hid (U32 S = U32 (S.set cl o)) := by refine Lib.hid ?_; rw [← HO.out, set_same32]
      have HOW := Lib.hid ho; have HB := Lib.hid hb
      clear hcall hS hA hO ho hb
      by_cases h1 : κ = 1#8
      · subst h1
        replace c1 : wr.cell? ⟨b1, o1 + k, none⟩ = some (.int .u8 1) := by simpa using c1
        have hst := run_call_store (P := Try.prog) Try.func18 (by kernel_rfl) (by kernel_rfl) (by kernel_rfl) (by kernel_rfl) (k := .u32) (y := (x.toNat : Int)) q0 f0
        obtain ⟨ho2, hb2⟩ := Owns.stored (p := []) HOW.out rfl cl (.int .u32 (x.toNat : Int))
        have HO2 := Lib.hid ho2; have HB2 := Lib.hid (HB.out.trans hb2)
        have hs2 := HB2.out.size
        clear ho2 hb2 q0 f0
        go_wp2_with (at_builtin; refine app32s [_] [] (.tmp 55) (.tmp 56) rfl rfl wr.heap.size (by simp) rfl rfl HO2.out rfl (by omega) (by exact hsz) ?_)
        intro a' c' w3 ho3 hb3 hz3
        have hT := Lib.hid (HB2.out.trans hb3)
        have hR := Lib.hid (rel_step32 lx HS.out HA.out HK.out HO.out (by rw [Call.step1 _ _ rfl]) (U32_set _) ho3)
        clear ho3 hb3 HO2 HB2
        go_wp2
        go_roundw
        case rel => exact ⟨k + 1, a', c', by omega, by go_num, rfl, hR.out, hT.out⟩
        case measure => simp [intOf]; omega
      by_cases h2 : κ = 2#8
      · subst h2
        replace c1 : wr.cell? ⟨b1, o1 + k, none⟩ = some (.int .u8 2) := by simpa using c1
        have ha := run_add_u32 (P := Try.prog) o x wr
        obtain ⟨z, hz⟩ : ∃ z, o + x = z := ⟨_, rfl⟩
        rw [hz] at ha
        have HZ := Lib.hid hz
        clear hz
        have hst := run_call_add (P := Try.prog) Try.func19 (by kernel_rfl) (by kernel_rfl) (by kernel_rfl) .u32 (by kernel_rfl) q0 f0 ha
        obtain ⟨ho2, hb2⟩ := Owns.stored (p := []) HOW.out rfl cl (.int .u32 (z.toNat : Int))
        have HO2 := Lib.hid ho2; have HB2 := Lib.hid (HB.out.trans hb2)
        have hs2 := HB2.out.size
        clear ho2 hb2 q0 f0
        go_wp2_with (at_builtin; refine app32s [_] [] (.tmp 60) (.tmp 67) rfl rfl wr.heap.size (by simp) rfl rfl HO2.out rfl (by omega) (by exact hsz) ?_)
        intro a' c' w3 ho3 hb3 hz3
        have hT := Lib.hid (HB2.out.trans hb3)
        have hR := Lib.hid (rel_step32 lx HS.out HA.out HK.out HO.out (by rw [Call.step2 _ _ rfl, HZ.out]) (U32_set _) ho3)
        clear ho3 hb3 HO2 HB2
        go_wp2
        go_roundw
        case rel => exact ⟨k + 1, a', c', by omega, by go_num, rfl, hR.out, hT.out⟩
        case measure => simp [intOf]; omega
      by_cases h3 : κ = 3#8
      · subst h3
        replace c1 : wr.cell? ⟨b1, o1 + k, none⟩ = some (.int .u8 3) := by simpa using c1
        have hst := run_call_swap (P := Try.prog) Try.func20 (by kernel_rfl) (by kernel_rfl) (by kernel_rfl) .u32 (by kernel_rfl) (y := (x.toNat : Int)) q0 f0
        obtain ⟨ho2, hb2⟩ := Owns.stored (p := []) HOW.out rfl cl (.int .u32 (x.toNat : Int))
        have HO2 := Lib.hid ho2; have HB2 := Lib.hid (HB.out.trans hb2)
        have hs2 := HB2.out.size
        clear ho2 hb2 q0 f0
        go_wp2_with (at_builtin; refine app32s [_] [] (.tmp 71) (.tmp 78) rfl rfl wr.heap.size (by simp) rfl rfl HO2.out rfl (by omega) (by exact hsz) ?_)
        intro a' c' w3 ho3 hb3 hz3
        have hT := Lib.hid (HB2.out.trans hb3)
        have hR := Lib.hid (rel_step32 lx HS.out HA.out HK.out HO.out (by rw [Call.step3 _ _ rfl]) (U32_set _) ho3)
        clear ho3 hb3 HO2 HB2
        go_wp2
        go_roundw
        case rel => exact ⟨k + 1, a', c', by omega, by go_num, rfl, hR.out, hT.out⟩
        case measure => simp [intOf]; omega
      by_cases h5 : κ = 5#8
      · subst h5
        replace c1 : wr.cell? ⟨b1, o1 + k, none⟩ = some (.int .u8 5) := by simpa using c1
        have ha := run_and_u32 (P := Try.prog) o x wr
        obtain ⟨z, hz⟩ : ∃ z, o &&& x = z := ⟨_, rfl⟩
        rw [hz] at ha
        have HZ := Lib.hid hz
        clear hz
        have hst := run_call_bits (P := Try.prog) Try.func22 (by kernel_rfl) (by kernel_rfl) (by kernel_rfl) .u32 .and (by kernel_rfl) q0 f0 ha
        obtain ⟨ho2, hb2⟩ := Owns.stored (p := []) HOW.out rfl cl (.int .u32 (z.toNat : Int))
        have HO2 := Lib.hid ho2; have HB2 := Lib.hid (HB.out.trans hb2)
        have hs2 := HB2.out.size
        clear ho2 hb2 q0 f0
        go_wp2_with (at_builtin; refine app32s [_] [] (.tmp 100) (.tmp 107) rfl rfl wr.heap.size (by simp) rfl rfl HO2.out rfl (by omega) (by exact hsz) ?_)
        intro a' c' w3 ho3 hb3 hz3
        have hT := Lib.hid (HB2.out.trans hb3)
        have hR := Lib.hid (rel_step32 lx HS.out HA.out HK.out HO.out (by rw [Call.step5 _ _ rfl, HZ.out]) (U32_set _) ho3)
        clear ho3 hb3 HO2 HB2
        go_wp2
        go_roundw
        case rel => exact ⟨k + 1, a', c', by omega, by go_num, rfl, hR.out, hT.out⟩
        case measure => simp [intOf]; omega
      by_cases h6 : κ = 6#8
      · subst h6
        replace c1 : wr.cell? ⟨b1, o1 + k, none⟩ = some (.int .u8 6) := by simpa using c1
        have ha := run_or_u32 (P := Try.prog) o x wr
        obtain ⟨z, hz⟩ : ∃ z, o ||| x = z := ⟨_, rfl⟩
        rw [hz] at ha
        have HZ := Lib.hid hz
        clear hz
        have hst := run_call_bits (P := Try.prog) Try.func23 (by kernel_rfl) (by kernel_rfl) (by kernel_rfl) .u32 .or (by kernel_rfl) q0 f0 ha
        obtain ⟨ho2, hb2⟩ := Owns.stored (p := []) HOW.out rfl cl (.int .u32 (z.toNat : Int))
        have HO2 := Lib.hid ho2; have HB2 := Lib.hid (HB.out.trans hb2)
        have hs2 := HB2.out.size
        clear ho2 hb2 q0 f0
        go_wp2_with (at_builtin; refine app32s [_] [] (.tmp 111) (.tmp 118) rfl rfl wr.heap.size (by simp) rfl rfl HO2.out rfl (by omega) (by exact hsz) ?_)
        intro a' c' w3 ho3 hb3 hz3
        have hT := Lib.hid (HB2.out.trans hb3)
        have hR := Lib.hid (rel_step32 lx HS.out HA.out HK.out HO.out (by rw [Call.step6 _ _ rfl, HZ.out]) (U32_set _) ho3)
        clear ho3 hb3 HO2 HB2
        go_wp2
        go_roundw
        case rel => exact ⟨k + 1, a', c', by omega, by go_num, rfl, hR.out, hT.out⟩
        case measure => simp [intOf]; omega
      by_cases h0 : κ = 0#8
      · subst h0
        replace c1 : wr.cell? ⟨b1, o1 + k, none⟩ = some (.int .u8 0) := by simpa using c1
        have hst := run_call_load (P := Try.prog) Try.func17 (by kernel_rfl) (by kernel_rfl) (by kernel_rfl) .u32 (by kernel_rfl) q0
        clear q0 f0
        go_wp2_with (at_builtin; refine app32s [_] [] (.tmp 42) (.tmp 45) rfl rfl wr.heap.size rfl rfl rfl HOW.out rfl (by omega) (by exact hsz) ?_)
        intro a' c' w3 ho3 hb3 hz3
        have hT := Lib.hid (HB.out.trans hb3)
        have hR := Lib.hid (rel_step32 lx HS.out HA.out HK.out HO.out (Call.step0 _ _ rfl) HSS.out ho3)
        clear ho3 hb3 HOW HB
        go_wp2
        go_roundw
        case rel => exact ⟨k + 1, a', c', by omega, by go_num, rfl, hR.out, hT.out⟩
        case measure => simp [intOf]; omega
      by_cases h4 : κ = 4#8
      · subst h4
        replace c1 : wr.cell? ⟨b1, o1 + k, none⟩ = some (.int .u8 4) := by simpa using c1
        have q0' : wr.drew.cell? ⟨b0, cl, none⟩ = some (.int .u32 (o.toNat : Int)) := by rw [World.cell?_drew]; exact q0
        have f0' : wr.drew.frozen? ⟨b0, cl, none⟩ = false := f0
        by_cases hq : o = x
        · obtain rfl := hq
          have hst := run_call_cas_hit (P := Try.prog) Try.func21 (by kernel_rfl) (by kernel_rfl) (by kernel_rfl) .u32 (by kernel_rfl) (y := (y.toNat : Int)) q0' f0'
          obtain ⟨ho2, hb2⟩ := Owns.stored (p := []) HOW.out rfl cl (.int .u32 (y.toNat : Int))
          have HO2 := Lib.hid ho2; have HB2 := Lib.hid (HB.out.trans hb2)
          have hs2 := HB2.out.size
          clear ho2 hb2 q0 f0
          clear q0' f0'
          go_wp2
          go_still_tail 9, (by kernel_rfl)
          go_wp2_with (at_builtin; refine app32s [_] [] (.tmp 92) (.tmp 93) rfl rfl wr.heap.size (by simp) rfl rfl HO2.out.drew rfl (by omega) (by exact hsz) ?_)
          intro a' c' w3 ho3 hb3 hz3
          have hT := Lib.hid (HB2.out.drew.trans hb3)
          have hR := Lib.hid (rel_step32 lx HS.out HA.out HK.out HO.out (by rw [Call.step4 _ _ rfl, if_pos rfl]) (U32_set _) ho3)
          clear ho3 hb3 HO2 HB2
          go_wp2
          go_roundw
          case rel => exact ⟨k + 1, a', c', by omega, by go_num, rfl, hR.out, hT.out⟩
          case measure => simp [intOf]; omega
        · have hne' : ¬ (o.toNat : Int) = (x.toNat : Int) := by
            rw [Int.natCast_inj]
            exact fun h => hq (BitVec.eq_of_toNat_eq h)
          have HQ := Lib.hid hq
          have hst := run_call_cas_miss (P := Try.prog) Try.func21 (by kernel_rfl) (by kernel_rfl) (by kernel_rfl) .u32 (by kernel_rfl) (y := (y.toNat : Int)) q0' f0' hne'
          clear q0 f0
          clear q0' f0' hq hne'
          go_wp2
          go_still_tail 9, (by kernel_rfl)
          go_wp2_with (at_builtin; refine app32s [_] [] (.tmp 95) (.tmp 96) rfl rfl wr.drew.heap.size rfl rfl rfl HOW.out.drew rfl (by omega) (by exact hsz) ?_)
          intro a' c' w3 ho3 hb3 hz3
          have hT := Lib.hid (HB.out.drew.trans hb3)
          have hR := Lib.hid (rel_step32 lx HS.out HA.out HK.out HO.out (by rw [Call.step4 _ _ rfl, if_neg HQ.out]) HSS.out ho3)
          clear ho3 hb3 HOW HB
          go_wp2
          go_roundw
          case rel => exact ⟨k + 1, a', c', by omega, by go_num, rfl, hR.out, hT.out⟩
          case measure => simp [intOf]; omega
      have t0 : ((κ.toNat : Int) == 0) = false := by rw [beq_eq_false_iff_ne]; intro h; exact h0 (BitVec.eq_of_toNat_eq (by simp; omega))
      have t1 : ((κ.toNat : Int) == 1) = false := by rw [beq_eq_false_iff_ne]; intro h; exact h1 (BitVec.eq_of_toNat_eq (by simp; omega))
      have t2 : ((κ.toNat : Int) == 2) = false := by rw [beq_eq_false_iff_ne]; intro h; exact h2 (BitVec.eq_of_toNat_eq (by simp; omega))
      have t3 : ((κ.toNat : Int) == 3) = false := by rw [beq_eq_false_iff_ne]; intro h; exact h3 (BitVec.eq_of_toNat_eq (by simp; omega))
      have t4 : ((κ.toNat : Int) == 4) = false := by rw [beq_eq_false_iff_ne]; intro h; exact h4 (BitVec.eq_of_toNat_eq (by simp; omega))
      have t5 : ((κ.toNat : Int) == 5) = false := by rw [beq_eq_false_iff_ne]; intro h; exact h5 (BitVec.eq_of_toNat_eq (by simp; omega))
      have t6 : ((κ.toNat : Int) == 6) = false := by rw [beq_eq_false_iff_ne]; intro h; exact h6 (BitVec.eq_of_toNat_eq (by simp; omega))
      have HD := Lib.hid (And.intro h0 (And.intro h1 (And.intro h2 (And.intro h3 (And.intro h4 (And.intro h5 h6))))))
      clear h0 h1 h2 h3 h4 h5 h6
      clear q0 f0
      go_wp2_with (at_builtin; refine app32s [_] [] (.tmp 37) (.tmp 38) rfl rfl wr.heap.size rfl rfl rfl HOW.out rfl (by omega) (by exact hsz) ?_)
      intro a' c' w3 ho3 hb3 hz3
      have hT := Lib.hid (HB.out.trans hb3)
      have hR := Lib.hid (rel_step32 lx HS.out HA.out HK.out HO.out (Call.step7 _ _ HD.out.1 HD.out.2.1 HD.out.2.2.1 HD.out.2.2.2.1 HD.out.2.2.2.2.1 HD.out.2.2.2.2.2.1 HD.out.2.2.2.2.2.2) HSS.out ho3)
      clear ho3 hb3 HOW HB
      go_wp2
      go_roundw
      case rel => exact ⟨k + 1, a', c', by omega, by go_num, rfl, hR.out, hT.out⟩
      case measure => simp [intOf]; omega
    · rw [List.take_of_length_le (by rw [Hsc.out]; omega)] at ho
      obtain rfl : k = m := by omega
      generalize hS : (runL st sc).2 = S at *
      generalize hA : (runL st sc).1 = A at *
      have HS : Hid (S.length = n) := by show _ = _; rw [← hS, runL_snd_length, Hst.out]
      clear hS hA
      have hp := Lib.hid (Owns.made ho hsz 29 #[] (by simp))
      have hbp := Lib.hid (hb.alloc hsz (.cells #[] 29))
      obtain ⟨wx, rfl⟩ : ∃ wx : World, wx = wr := ⟨_, rfl⟩
      clear ho hb hsz
      go_wp2
      go_loopw [124, 17] (fun i v wr => ∃ (j : Nat) (a' : Option Addr) (c' : Nat), j ≤ n ∧ i = .int .i64 j ∧ v = .slice a' j c' ∧ Owns wr w.heap.size [⟨29, ea, n, ec, U32 S⟩, ⟨29, a, k, c, U32 A⟩, ⟨29, a', j, c', U32 (S.take j)⟩] ∧ Below w.heap.size w wr) (fun i _ _ => n - (intOf i).toNat)
      case atStart => exact ⟨0, _, _, Nat.zero_le _, rfl, rfl, by simpa using hp.out, hbp.out⟩
      case round =>
        clear hp hbp
        obtain ⟨j, a', c', hj', rfl, rfl, ho, hb⟩ := hrel
        have hsz := hb.size
        by_cases hlt : j < n
        · have lx : j < S.length := by rw [HS.out]; exact hlt
          obtain ⟨b0, rfl⟩ := ho.addr 0 rfl (k := j) (by simpa using lx)
          have q0 := ho.get32 0 rfl lx
          have HTK : Hid (U32 (S.take (j + 1)) = U32 (S.take j) ++ [.int .u32 (S[j].toNat : Int)]) := by refine Lib.hid ?_; rw [List.take_succ_eq_append_getElem lx, U32_snoc]
          obtain ⟨o, hO⟩ : ∃ o, S[j] = o := ⟨_, rfl⟩
          rw [hO] at q0 HTK
          have hst := run_call_load (P := Try.prog) Try.func17 (by kernel_rfl) (by kernel_rfl) (by kernel_rfl) .u32 (by kernel_rfl) q0
          have HOW := Lib.hid ho; have HB := Lib.hid hb
          clear ho hb hO q0
          go_wp2_with (at_builtin; refine app32s [_, _] [] (.tmp 127) (.tmp 132) rfl rfl wr.heap.size rfl rfl rfl HOW.out rfl (by omega) (by exact hsz) ?_)
          intro a2 c2 w3 ho3 hb3 hz3
          have hT := Lib.hid (HB.out.trans hb3)
          have hR : Hid (Owns w3 w.heap.size [⟨29, some ⟨b0, 0, none⟩, n, ec, U32 S⟩, ⟨29, a, k, c, U32 A⟩, ⟨29, a2, j + 1, c2, U32 (S.take (j + 1))⟩]) := by
            refine Lib.hid ?_
            rw [HTK.out]
            exact ho3
          clear ho3 hb3 HOW HB
          go_wp2
          go_roundw
          case rel => exact ⟨j + 1, a2, c2, by omega, by go_num, rfl, hR.out, hT.out⟩
          case measure => simp [intOf]; omega
        · rw [List.take_of_length_le (by rw [HS.out]; omega)] at ho
          obtain rfl : j = n := by omega
          have HR := Lib.hid (ho.drop (L' := [⟨29, a, k, c, U32 A⟩, ⟨29, a', j, c', U32 S⟩]) (by simp))
          have HB := Lib.hid hb
          clear ho hb
          go_wp2
          go_ret2
          exact ⟨a, c, a', c', rfl, HR.out, HB.out⟩
end Go.Proofs.Ytjciefonlhhoaaa
