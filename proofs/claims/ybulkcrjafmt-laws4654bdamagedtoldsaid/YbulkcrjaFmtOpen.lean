/-
  Seat b4654aF: the laws' token, opened: from how the argument reads to its cells.
-/
import Derived.Test.YbulkcrjaFmtSmall
import Derived.Deep.Slices
import Derived.ChangeArms
import Derived.WideShapes
import Derived.DataShut
namespace Go.Proofs.YbulkcrjaFmt
open Go.RowKit Go.ChangeShapes Go.WideShapes Go.Extern.Stop Go.Stop Go.Extern

theorem cells105 : Ybaf.prog.cellsOf 105 = 4 := by kernel_rfl
theorem cells22 : Ybaf.prog.cellsOf 22 = 1 := by kernel_rfl
theorem cells41 : Ybaf.prog.cellsOf 41 = 1 := by kernel_rfl
theorem cells5 : Ybaf.prog.cellsOf 5 = 1 := by kernel_rfl
theorem cells2 : Ybaf.prog.cellsOf 2 = 1 := by kernel_rfl
theorem cells23 : Ybaf.prog.cellsOf 23 = 1 := by kernel_rfl
theorem cells24 : Ybaf.prog.cellsOf 24 = 1 := by kernel_rfl
theorem cells26 : Ybaf.prog.cellsOf 26 = 8 := by kernel_rfl

theorem nat_of {k : IntKind} {n : Int} {m : Nat} (h : (Lit.int k n).wf = true) (h0 : k.min = 0) (h1 : k.max + 1 = (m : Int)) : ∃ x : Nat, n = (x : Int) ∧ x < m := by
  obtain ⟨a, b⟩ := (Lit.wf_int_iff k n).1 h
  exact ⟨n.toNat, by omega, by omega⟩

section
variable {H : Type} {enc : TypeId × Value → H} {w : World} {sp : Nat → Bool} {held : Bool}

set_option maxRecDepth 100000 in
/-- One run of the input. -/
theorem open_raw {fuel : Nat} {cs : List Value} {x : DataW H × List MemPlace} (h : DataW.trod enc Ybaf.prog w 0 sp held fuel 105 cs = some x) :
    ∃ r : Raw, cs = [.int .u16 r.snd, .int .u64 r.inc, .int .u64 r.first, .int .u8 r.len] := by
  obtain ⟨xs, n, _, _, hl, hx, hf⟩ := DataW.trod_struct Ybaf.underlying105 h
  rw [cells105] at hl
  have hx' : xs.length = 4 := hx
  match cs, hl with
  | [c0, c1, c2, c3], _ =>
    have f0 : DataW.trod enc Ybaf.prog w 0 sp held n 41 (([c0, c1, c2, c3].drop 0).take (Ybaf.prog.cellsOf 41)) = xs[0]? := hf 0 _ rfl
    rw [cells41, List.getElem?_eq_getElem (by omega)] at f0
    replace f0 : DataW.trod enc Ybaf.prog w 0 sp held n 41 [c0] = some (xs[0]'(by omega)) := f0
    have f1 : DataW.trod enc Ybaf.prog w 0 sp held n 22 (([c0, c1, c2, c3].drop 1).take (Ybaf.prog.cellsOf 22)) = xs[1]? := hf 1 _ rfl
    rw [cells22, List.getElem?_eq_getElem (by omega)] at f1
    replace f1 : DataW.trod enc Ybaf.prog w 0 sp held n 22 [c1] = some (xs[1]'(by omega)) := f1
    have f2 : DataW.trod enc Ybaf.prog w 0 sp held n 22 (([c0, c1, c2, c3].drop 2).take (Ybaf.prog.cellsOf 22)) = xs[2]? := hf 2 _ rfl
    rw [cells22, List.getElem?_eq_getElem (by omega)] at f2
    replace f2 : DataW.trod enc Ybaf.prog w 0 sp held n 22 [c2] = some (xs[2]'(by omega)) := f2
    have f3 : DataW.trod enc Ybaf.prog w 0 sp held n 5 (([c0, c1, c2, c3].drop 3).take (Ybaf.prog.cellsOf 5)) = xs[3]? := hf 3 _ rfl
    rw [cells5, List.getElem?_eq_getElem (by omega)] at f3
    replace f3 : DataW.trod enc Ybaf.prog w 0 sp held n 5 [c3] = some (xs[3]'(by omega)) := f3
    obtain ⟨n0, e0, _, w0⟩ := DataW.trod_int Ybaf.underlying41 f0
    obtain ⟨n1, e1, _, w1⟩ := DataW.trod_int Ybaf.underlying22 f1
    obtain ⟨n2, e2, _, w2⟩ := DataW.trod_int Ybaf.underlying22 f2
    obtain ⟨n3, e3, _, w3⟩ := DataW.trod_int Ybaf.underlying5 f3
    obtain ⟨m0, rfl, l0⟩ := nat_of (m := 65536) w0 (by decide) (by decide)
    obtain ⟨m1, rfl, l1⟩ := nat_of (m := 18446744073709551616) w1 (by decide) (by decide)
    obtain ⟨m2, rfl, l2⟩ := nat_of (m := 18446744073709551616) w2 (by decide) (by decide)
    obtain ⟨m3, rfl, l3⟩ := nat_of (m := 256) w3 (by decide) (by decide)
    simp only [List.cons.injEq, and_true] at e0 e1 e2 e3
    subst e0 e1 e2 e3
    exact ⟨⟨m0, m1, m2, m3, l0, l1, l2, l3⟩, rfl⟩

theorem list_of {α : Type} {n : Nat} {p : Nat → α → Prop} (h : ∀ i, i < n → ∃ x, p i x) : ∃ L : List α, L.length = n ∧ ∀ i (hi : i < L.length), p i L[i] := by
  induction n with
  | zero => exact ⟨[], rfl, fun i hi => absurd hi (by simp)⟩
  | succ n ih =>
    obtain ⟨L, hl, hL⟩ := ih (fun i hi => h i (by omega))
    obtain ⟨x, hx⟩ := h n (by omega)
    refine ⟨L ++ [x], by simp [hl], fun i hi => ?_⟩
    by_cases hlt : i < L.length
    · rw [List.getElem_append_left hlt]
      exact hL i hlt
    · have : i = n := by simp at hi; omega
      subst this
      simp [hl, hx]

theorem open_raws {fuel : Nat} {c : Value} {x : DataW H × List MemPlace} (h : DataW.trod enc Ybaf.prog w 0 sp held fuel 23 [c] = some x) :
    ∃ (L : List Raw) (ao : Option Addr) (cap : Nat), c = .slice ao L.length cap ∧ RawAt w.heap.size w ao L := by
  rcases Go.Deep.open_slice Ybaf.underlying23 h with ⟨e, _⟩ | ⟨a, len, cap, m, n, D, Pl, e, _, hlc, _, hm, _, hx⟩
  · simp only [List.cons.injEq, and_true] at e
    exact ⟨[], none, 0, e, fun h => absurd rfl h⟩
  · simp only [List.cons.injEq, and_true] at e
    have hlm : len ≤ m := by rw [hm]; split <;> omega
    have hq : ∀ i, i < len → ∃ r : Raw, w.cells? 0 (a.add (i * 4)) 4 = some [.int .u16 r.snd, .int .u64 r.inc, .int .u64 r.first, .int .u8 r.len] := fun i hi => by
      obtain ⟨cs', h1, h2⟩ := hx i (by omega)
      rw [cells105] at h1
      obtain ⟨r, rfl⟩ := open_raw h2
      exact ⟨r, h1⟩
    obtain ⟨L, hl, hL⟩ := list_of hq
    refine ⟨L, some a, cap, by rw [hl]; exact e, fun hne => ?_⟩
    have hpos : 0 < L.length := List.length_pos_iff.2 hne
    have hc0 := (World.cells?_some (hL 0 hpos)).2.2 0 (by omega)
    have hsp : a.spot = none := by
      have : (a.add (0 * 4)).add 0 = a := by simp [Addr.add]
      rw [this] at hc0
      exact World.cell?_spot (v := .int .u16 (L[0]).snd) hc0
    obtain ⟨ab, ao, asp⟩ := a
    simp only at hsp
    subst hsp
    have hlt : ab < w.heap.size := by
      have : (Addr.add ⟨ab, ao, none⟩ (0 * 4)).add 0 = ⟨ab, ao, none⟩ := by simp [Addr.add]
      rw [this] at hc0
      exact World.block_lt_of_cell? w ⟨ab, ao, none⟩ (u := .int .u16 (L[0]).snd) hc0
    refine ⟨ab, ao, rfl, hlt, fun i hi => ?_⟩
    have hci := (World.cells?_some (hL i hi)).2.2
    have k0 := hci 0 (by omega)
    have k1 := hci 1 (by omega)
    have k2 := hci 2 (by omega)
    have k3 := hci 3 (by omega)
    simp only [Addr.add_lit] at k0 k1 k2 k3
    exact ⟨k0, k1, k2, k3⟩

theorem open_u64s {fuel : Nat} {c : Value} {x : DataW H × List MemPlace} (h : DataW.trod enc Ybaf.prog w 0 sp held fuel 24 [c] = some x) :
    ∃ (A : List Nat) (ao : Option Addr) (cap : Nat), c = .slice ao A.length cap ∧ U64At w.heap.size w ao A ∧ ∀ x ∈ A, x < 18446744073709551616 := by
  rcases Go.Deep.open_slice1 Ybaf.underlying24 cells22 h with ⟨e, _⟩ | ⟨a, len, cap, m, n, V, D, Pl, e, _, hlc, _, hm, _, hx⟩
  · simp only [List.cons.injEq, and_true] at e
    exact ⟨[], none, 0, e, fun h => absurd rfl h, fun x hx => by cases hx⟩
  · simp only [List.cons.injEq, and_true] at e
    have hlm : len ≤ m := by rw [hm]; split <;> omega
    have hq : ∀ i, i < len → ∃ r : Nat, w.cell? (a.add i) = some (.int .u64 r) ∧ r < 18446744073709551616 := fun i hi => by
      obtain ⟨h1, h2⟩ := hx i (by omega)
      obtain ⟨n0, e0, _, w0⟩ := DataW.trod_int Ybaf.underlying22 h2
      obtain ⟨m0, rfl, l0⟩ := nat_of (m := 18446744073709551616) w0 (by decide) (by decide)
      simp only [List.cons.injEq, and_true] at e0
      rw [e0] at h1
      exact ⟨m0, h1, l0⟩
    obtain ⟨A, hl, hA⟩ := list_of hq
    refine ⟨A, some a, cap, by rw [hl]; exact e, fun hne => ?_, fun x hx => ?_⟩
    · have hpos : 0 < A.length := List.length_pos_iff.2 hne
      have hc0 := (hA 0 hpos).1
      have hsp : a.spot = none := by
        have : a.add 0 = a := by simp [Addr.add]
        rw [this] at hc0
        exact World.cell?_spot hc0
      obtain ⟨ab, ao, asp⟩ := a
      simp only at hsp
      subst hsp
      have hlt : ab < w.heap.size := by
        have : Addr.add ⟨ab, ao, none⟩ 0 = ⟨ab, ao, none⟩ := by simp [Addr.add]
        rw [this] at hc0
        exact World.block_lt_of_cell? w ⟨ab, ao, none⟩ hc0
      refine ⟨ab, ao, rfl, hlt, fun i hi => ?_⟩
      have := (hA i hi).1
      rw [Addr.add_lit] at this
      exact this
    · obtain ⟨i, hi, rfl⟩ := List.mem_iff_getElem.1 hx
      exact (hA i hi).2

set_option maxRecDepth 100000 in
/-- THE TOKEN, OPENED. -/
theorem open_in {base : Nat} {r : Reach} {v : Value} {d : DataW H} {ps : List MemPlace} (ok : Value.okWide Ybaf.prog w r base 26 v) (h : DataW.Trod enc Ybaf.prog w 0 sp held 26 v d ps) :
    ∃ (t : In) (po dao aao : Option Addr) (pc dc ac : Nat), v = .agg (t.cells po dao aao pc dc ac) ∧ RawAt w.heap.size w po t.P ∧ RawAt w.heap.size w dao t.D ∧ U64At w.heap.size w aao t.A := by
  obtain ⟨csa, rfl, _⟩ := okWide_struct Ybaf.underlying26 ok
  obtain ⟨fuel, h⟩ := h
  obtain ⟨xs, n, _, _, hl, hx, hf⟩ := DataW.trod_struct Ybaf.underlying26 h
  rw [cells26] at hl
  have hx' : xs.length = 8 := hx
  obtain ⟨cs⟩ := csa
  simp only [Value.cells] at hl hf
  match cs, hl with
  | [c0, c1, c2, c3, c4, c5, c6, c7], _ =>
    have f0 : DataW.trod enc Ybaf.prog w 0 sp held n 5 (([c0, c1, c2, c3, c4, c5, c6, c7].drop 0).take (Ybaf.prog.cellsOf 5)) = xs[0]? := hf 0 _ rfl
    rw [cells5, List.getElem?_eq_getElem (by omega)] at f0
    replace f0 : DataW.trod enc Ybaf.prog w 0 sp held n 5 [c0] = some (xs[0]'(by omega)) := f0
    have f1 : DataW.trod enc Ybaf.prog w 0 sp held n 2 (([c0, c1, c2, c3, c4, c5, c6, c7].drop 1).take (Ybaf.prog.cellsOf 2)) = xs[1]? := hf 1 _ rfl
    rw [cells2, List.getElem?_eq_getElem (by omega)] at f1
    replace f1 : DataW.trod enc Ybaf.prog w 0 sp held n 2 [c1] = some (xs[1]'(by omega)) := f1
    have f2 : DataW.trod enc Ybaf.prog w 0 sp held n 22 (([c0, c1, c2, c3, c4, c5, c6, c7].drop 2).take (Ybaf.prog.cellsOf 22)) = xs[2]? := hf 2 _ rfl
    rw [cells22, List.getElem?_eq_getElem (by omega)] at f2
    replace f2 : DataW.trod enc Ybaf.prog w 0 sp held n 22 [c2] = some (xs[2]'(by omega)) := f2
    have f3 : DataW.trod enc Ybaf.prog w 0 sp held n 22 (([c0, c1, c2, c3, c4, c5, c6, c7].drop 3).take (Ybaf.prog.cellsOf 22)) = xs[3]? := hf 3 _ rfl
    rw [cells22, List.getElem?_eq_getElem (by omega)] at f3
    replace f3 : DataW.trod enc Ybaf.prog w 0 sp held n 22 [c3] = some (xs[3]'(by omega)) := f3
    have f4 : DataW.trod enc Ybaf.prog w 0 sp held n 23 (([c0, c1, c2, c3, c4, c5, c6, c7].drop 4).take (Ybaf.prog.cellsOf 23)) = xs[4]? := hf 4 _ rfl
    rw [cells23, List.getElem?_eq_getElem (by omega)] at f4
    replace f4 : DataW.trod enc Ybaf.prog w 0 sp held n 23 [c4] = some (xs[4]'(by omega)) := f4
    have f5 : DataW.trod enc Ybaf.prog w 0 sp held n 22 (([c0, c1, c2, c3, c4, c5, c6, c7].drop 5).take (Ybaf.prog.cellsOf 22)) = xs[5]? := hf 5 _ rfl
    rw [cells22, List.getElem?_eq_getElem (by omega)] at f5
    replace f5 : DataW.trod enc Ybaf.prog w 0 sp held n 22 [c5] = some (xs[5]'(by omega)) := f5
    have f6 : DataW.trod enc Ybaf.prog w 0 sp held n 23 (([c0, c1, c2, c3, c4, c5, c6, c7].drop 6).take (Ybaf.prog.cellsOf 23)) = xs[6]? := hf 6 _ rfl
    rw [cells23, List.getElem?_eq_getElem (by omega)] at f6
    replace f6 : DataW.trod enc Ybaf.prog w 0 sp held n 23 [c6] = some (xs[6]'(by omega)) := f6
    have f7 : DataW.trod enc Ybaf.prog w 0 sp held n 24 (([c0, c1, c2, c3, c4, c5, c6, c7].drop 7).take (Ybaf.prog.cellsOf 24)) = xs[7]? := hf 7 _ rfl
    rw [cells24, List.getElem?_eq_getElem (by omega)] at f7
    replace f7 : DataW.trod enc Ybaf.prog w 0 sp held n 24 [c7] = some (xs[7]'(by omega)) := f7
    obtain ⟨n0, e0, _, w0⟩ := DataW.trod_int Ybaf.underlying5 f0
    obtain ⟨n1, e1, _, w1⟩ := DataW.trod_int Ybaf.underlying2 f1
    obtain ⟨n2, e2, _, w2⟩ := DataW.trod_int Ybaf.underlying22 f2
    obtain ⟨n3, e3, _, w3⟩ := DataW.trod_int Ybaf.underlying22 f3
    obtain ⟨P, po, pc, rfl, hP⟩ := open_raws f4
    obtain ⟨n5, e5, _, w5⟩ := DataW.trod_int Ybaf.underlying22 f5
    obtain ⟨D, dao, dc, rfl, hD⟩ := open_raws f6
    obtain ⟨A, aao, ac, rfl, hA, hA64⟩ := open_u64s f7
    obtain ⟨m0, rfl, l0⟩ := nat_of (m := 256) w0 (by decide) (by decide)
    obtain ⟨m2, rfl, l2⟩ := nat_of (m := 18446744073709551616) w2 (by decide) (by decide)
    obtain ⟨m3, rfl, l3⟩ := nat_of (m := 18446744073709551616) w3 (by decide) (by decide)
    obtain ⟨m5, rfl, l5⟩ := nat_of (m := 18446744073709551616) w5 (by decide) (by decide)
    obtain ⟨r0, r1⟩ := (Lit.wf_int_iff .i64 n1).1 w1
    simp only [List.cons.injEq, and_true] at e0 e1 e2 e3 e5
    subst e0 e1 e2 e3 e5
    exact ⟨⟨m0, n1, m2, m3, m5, P, D, A, l0, by simpa [IntKind.min, IntKind.signed, IntKind.bits] using r0, by simpa [IntKind.max, IntKind.signed, IntKind.bits] using r1, l2, l3, l5, hA64⟩, po, dao, aao, pc, dc, ac, rfl, hP, hD, hA⟩
end
end Go.Proofs.YbulkcrjaFmt
