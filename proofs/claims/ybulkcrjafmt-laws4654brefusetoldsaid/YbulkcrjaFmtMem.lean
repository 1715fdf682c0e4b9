/-
  Seat b4654aF: WHAT THE WALKS SAY OF MEMORY: a decoder's two cells, the bytes that it has left, its error; what stays as it was ('grownBy': all blocks but one). No walk in this text.
-/
import Derived.Test.YbulkcrjaFmtIs
import Derived.Test.YbulkcrjaFmtPlain
import Derived.OwnWalk
namespace Go.Proofs.YbulkcrjaFmt
open Go.RowKit Go.Extern.Stop Go.Stop Go.Extern

theorem hide {p : Prop} (h : p) : Hid p := h
theorem unhide {p : Prop} (h : Hid p) : p := h

theorem gb_trans {w w1 w2 : World} {r r' : Option Nat} (h : w.grownBy w1 r) (h' : w1.grownBy w2 r') (hr : ∀ k, r' = some k → r = some k ∨ w.heap.size ≤ k) : w.grownBy w2 r :=
  ⟨h'.os.trans h.os, h'.tape.trans h.tape, h'.output.trans h.output, Nat.le_trans h.size h'.size, fun k hk hne => by
    have h1 := h.size
    refine (h'.block k (by omega) fun e => ?_).trans (h.block k hk hne)
    rcases hr k e.symm with h2 | h2
    · exact hne h2.symm
    · omega⟩
theorem gb_same {w w1 w2 : World} {r : Option Nat} (h : w.grownBy w1 r) (h' : w1.grownBy w2 r) : w.grownBy w2 r := gb_trans h h' fun _ e => .inl e
theorem gb_none {w w1 w2 : World} {r : Option Nat} (h : w.grownBy w1 r) (h' : w1.grownBy w2 none) : w.grownBy w2 r := gb_trans h h' fun _ e => by cases e
theorem gb_drew (w : World) (r : Option Nat) : w.grownBy w.drew r := ⟨rfl, rfl, rfl, Nat.le_refl _, fun _ _ _ => rfl⟩
theorem gb_setCell (w : World) (a : Addr) (v : Value) : w.grownBy (w.setCell a v) (some a.block) :=
  ⟨rfl, rfl, rfl, by simp [World.setCell], fun k _ hne => Below.heap_setCell _ _ _ _ (fun e => hne (by rw [e]))⟩
theorem gb_weak {w w' : World} {r : Option Nat} (h : w.grownBy w' none) : w.grownBy w' r :=
  ⟨h.os, h.tape, h.output, h.size, fun k hk _ => h.block k hk (by simp)⟩
theorem gb_below {w w' : World} {r : Option Nat} {B : Nat} (h : w.grownBy w' r) (hB : B ≤ w.heap.size) (hr : ∀ k, r = some k → B ≤ k) : Below B w w' :=
  ⟨h.os, h.tape, h.output, h.size, fun k hk => h.block k (by omega) (fun e => by have := hr k e.symm; omega)⟩
theorem below_gb {w w' : World} (h : Below w.heap.size w w') (r : Option Nat) : w.grownBy w' r := ⟨h.os, h.tape, h.output, h.size, fun k hk _ => h.block k hk⟩

theorem cell_heap {w : World} {b : Nat} {c : Array Value} {t : TypeId} {fr : Nat × Nat} (h : w.heap[b]? = some (.cells c t fr)) (o : Nat) : w.cell? ⟨b, o, none⟩ = c[o]? := by
  simp [World.cell?, h]
theorem frozen_heap {w : World} {b : Nat} {c : Array Value} {t : TypeId} (h : w.heap[b]? = some (.cells c t (0, 0))) (o : Nat) : w.frozen? ⟨b, o, none⟩ = false := by
  simp [World.frozen?, h]
theorem lt_heap {w : World} {b : Nat} {o : Obj} (h : w.heap[b]? = some o) : b < w.heap.size := (Array.getElem?_eq_some_iff.1 h).1
theorem lt_cell {w : World} {a : Addr} {v : Value} (h : w.cell? a = some v) : a.block < w.heap.size := World.block_lt_of_cell? w a h

theorem heap_set0 {w : World} {b : Nat} {x0 x1 : Value} {t : TypeId} (h : w.heap[b]? = some (.cells #[x0, x1] t (0, 0))) (v : Value) : (w.setCell ⟨b, 0, none⟩ v).heap[b]? = some (.cells #[v, x1] t (0, 0)) := by
  simp [World.setCell, Array.getElem?_modify, h]
theorem heap_set1 {w : World} {b : Nat} {x0 x1 : Value} {t : TypeId} (h : w.heap[b]? = some (.cells #[x0, x1] t (0, 0))) (v : Value) : (w.setCell ⟨b, 1, none⟩ v).heap[b]? = some (.cells #[x0, v] t (0, 0)) := by
  simp [World.setCell, Array.getElem?_modify, h]

/-- THE GROUND: what the stopped errorf answers, and the sentinel: 'a' is where it points. -/
structure Env (F : Interp) (a : Addr) (w : World) : Prop where
  ans : F.answers w.tape
  var : w.cell? ⟨0, 0, none⟩ = some (.iface 129 (.pointer (some a)))
  text : ∃ s, w.cell? a = some (.string s)

/-- The bytes l lie at ao, in a block of bytes (nothing is asked of an empty slice). -/
def Bytes (w : World) (ao : Option Addr) (c : Nat) (l : List UInt8) : Prop :=
  l.length ≤ c ∧ c ≤ 9223372036854775807 ∧ (l ≠ [] → ∃ g o cur fr, ao = some ⟨g, o, none⟩ ∧ w.heap[g]? = some (.cells cur 5 fr) ∧ ∀ j (hj : j < l.length), w.cell? ⟨g, o + j, none⟩ = some (.int .u8 (l[j]).toNat))

/-- A decoder's state: the bytes that are left, or none: it has failed, and its error wraps the sentinel. -/
def Dec (a : Addr) (bd : Nat) (w : World) : Option (List UInt8) → Prop
  | some l => ∃ ao c, w.heap[bd]? = some (.cells #[.slice ao l.length c, .nilIface] 86 (0, 0)) ∧ Bytes w ao c l
  | none => ∃ pb txt, w.heap[bd]? = some (.cells #[.slice none 0 0, .iface 116 (.pointer (some ⟨pb, 0, none⟩))] 86 (0, 0)) ∧ w.heap[pb]? = some (.cells #[.string txt, .iface 129 (.pointer (some a))] 171 (0, 0))

theorem Dec.two {a : Addr} {bd : Nat} {w : World} {s : Option (List UInt8)} (h : Dec a bd w s) : ∃ sv ev, w.heap[bd]? = some (.cells #[sv, ev] 86 (0, 0)) ∧ (∃ ao n c, sv = .slice ao n c) ∧ (ev = .nilIface ∨ ∃ p, ev = .iface 116 p) := by
  cases s with
  | none => obtain ⟨pb, txt, h, _⟩ := h; exact ⟨_, _, h, ⟨_, _, _, rfl⟩, .inr ⟨_, rfl⟩⟩
  | some l => obtain ⟨ao, c, h, _⟩ := h; exact ⟨_, _, h, ⟨_, _, _, rfl⟩, .inl rfl⟩

/-- The decoder's block is none of the sentinel's. -/
theorem Dec.apart {F : Interp} {a : Addr} {bd : Nat} {w : World} {s : Option (List UInt8)} (h : Dec a bd w s) (hE : Env F a w) : bd ≠ 0 ∧ bd ≠ a.block := by
  obtain ⟨sv, ev, hb, ⟨ao, n, c, rfl⟩, hev⟩ := h.two
  constructor
  · rintro rfl
    have := hE.var
    rw [cell_heap hb 0] at this
    simp at this
  · rintro rfl
    obtain ⟨s', ht⟩ := hE.text
    obtain ⟨b, o, sp⟩ := a
    have hsp := World.cell?_spot ht
    simp only at hsp
    subst hsp
    rw [cell_heap hb o] at ht
    match o, ht with
    | 0, ht => simp at ht
    | 1, ht => rcases hev with rfl | ⟨p, rfl⟩ <;> simp at ht
    | o + 2, ht => simp at ht

theorem Env.kept {F : Interp} {a : Addr} {w w' : World} {r : Option Nat} (hE : Env F a w) (hg : w.grownBy w' r) (h0 : r ≠ some 0) (ha : r ≠ some a.block) : Env F a w' := by
  obtain ⟨s, hs⟩ := hE.text
  exact ⟨by rw [hg.tape]; exact hE.ans, hg.cell hE.var (fun e => h0 e.symm), s, hg.cell hs (fun e => ha e.symm)⟩

theorem Env.dec {F : Interp} {a : Addr} {bd : Nat} {w w' : World} {s : Option (List UInt8)} (hE : Env F a w) (hD : Dec a bd w s) (hg : w.grownBy w' (some bd)) : Env F a w' := by
  obtain ⟨h1, h2⟩ := hD.apart hE
  exact hE.kept hg (by simpa using h1) (by simpa using h2)

theorem Bytes.kept {w w' : World} {ao : Option Addr} {c : Nat} {l : List UInt8} {r : Option Nat} (h : Bytes w ao c l) (hg : w.grownBy w' r) (hr : ∀ b, r = some b → ∃ cur t fr, w.heap[b]? = some (.cells cur t fr) ∧ t ≠ 5) : Bytes w' ao c l := by
  refine ⟨h.1, h.2.1, fun hl => ?_⟩
  obtain ⟨g, o, cur, fr, rfl, hb, hc⟩ := h.2.2 hl
  have hne : some g ≠ r := by
    intro e
    obtain ⟨cur', t, fr', h1, h2⟩ := hr g e.symm
    rw [h1] at hb
    simp only [Option.some.injEq, Obj.cells.injEq] at hb
    exact h2 hb.2.1
  exact ⟨g, o, cur, fr, rfl, by rw [hg.block g (lt_heap hb) hne]; exact hb, fun j hj => hg.cell (hc j hj) hne⟩

theorem Bytes.drop {w : World} {ao : Option Addr} {c : Nat} {l : List UInt8} (h : Bytes w ao c l) (k : Nat) (ao' : Option Addr) (hk : k ≤ l.length)
    (he : l.drop k ≠ [] → ∀ g o, ao = some ⟨g, o, none⟩ → ao' = some ⟨g, o + k, none⟩) : Bytes w ao' (c - k) (l.drop k) := by
  have h1 := h.1
  have h2 := h.2.1
  refine ⟨by rw [List.length_drop]; omega, by omega, fun hl => ?_⟩
  have hl' : l ≠ [] := by rintro rfl; simp at hl
  obtain ⟨g, o, cur, fr, rfl, hb, hc⟩ := h.2.2 hl'
  refine ⟨g, o + k, cur, fr, he hl g o rfl, hb, fun j hj => ?_⟩
  rw [List.length_drop] at hj
  have := hc (k + j) (by omega)
  rw [Nat.add_assoc, this]
  simp

/-- A decoder stays as it is where its block, its bytes and its error stay: each is known by its block's type. -/
theorem Dec.kept {a : Addr} {bd : Nat} {w w' : World} {s : Option (List UInt8)} {r : Option Nat} (h : Dec a bd w s) (hg : w.grownBy w' r)
    (hr : ∀ b, r = some b → ∃ cur t fr, w.heap[b]? = some (.cells cur t fr) ∧ t ≠ 5 ∧ t ≠ 86 ∧ t ≠ 171) : Dec a bd w' s := by
  have hne : ∀ b cur t fr, w.heap[b]? = some (.cells cur t fr) → (t = 5 ∨ t = 86 ∨ t = 171) → some b ≠ r := by
    intro b cur t fr hb ht e
    obtain ⟨cur', t', fr', h1, h2, h3, h4⟩ := hr b e.symm
    rw [h1] at hb
    simp only [Option.some.injEq, Obj.cells.injEq] at hb
    obtain ⟨_, rfl, _⟩ := hb
    rcases ht with ht | ht | ht
    · exact h2 ht
    · exact h3 ht
    · exact h4 ht
  cases s with
  | none =>
    obtain ⟨pb, txt, h1, h2⟩ := h
    exact ⟨pb, txt, by rw [hg.block bd (lt_heap h1) (hne _ _ _ _ h1 (by simp))]; exact h1, by rw [hg.block pb (lt_heap h2) (hne _ _ _ _ h2 (by simp))]; exact h2⟩
  | some l =>
    obtain ⟨ao, c, h1, h2⟩ := h
    refine ⟨ao, c, by rw [hg.block bd (lt_heap h1) (hne _ _ _ _ h1 (by simp))]; exact h1, h2.kept hg fun b hb => ?_⟩
    obtain ⟨cur', t', fr', h1, h2, _⟩ := hr b hb
    exact ⟨cur', t', fr', h1, h2⟩

/-- New memory alone: a decoder stays. -/
theorem Dec.grown {a : Addr} {bd : Nat} {w w' : World} {s : Option (List UInt8)} (h : Dec a bd w s) (hg : w.grownBy w' none) : Dec a bd w' s := h.kept hg (by simp)

theorem own_block {w : World} {base : Nat} {e : TypeId} {size : Nat} {v : Value} {n : Nat} {xs : List Value} (h : w.ownsRow base e size v n xs) : ∀ b, v.ownBlock = some b → ∃ cur, w.heap[b]? = some (.cells cur e (0, 0)) := by
  intro b hb
  rcases h.2 with ⟨rfl, _⟩ | ⟨g, cap, cur, rfl, _, hg, _⟩
  · simp [Value.ownBlock] at hb
  · simp [Value.ownBlock] at hb
    subst hb
    exact ⟨cur, hg⟩

/-- One number off a decoder. -/
def uvS : Option (List UInt8) → Nat × Option (List UInt8)
  | none => (0, none)
  | some l => match Pl.uvF l with
    | none => (0, none)
    | some (x, l') => (x, some l')
def vS : Option (List UInt8) → Int × Option (List UInt8)
  | none => (0, none)
  | some l => match Pl.vF l with
    | none => (0, none)
    | some (x, l') => (x, some l')

end Go.Proofs.YbulkcrjaFmt
