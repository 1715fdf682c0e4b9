/-
  Seat b4654aF: binary.AppendUvarint and AppendVarint onto a slice of the call's own, WITH A FRAME THAT SPARES ALL THAT IS NO ROW OF BYTES ('Kp'); the encoder's 'zzs4654bruns'.
-/
import Derived.Test.YbulkcrjaFmtTok
import Derived.Lib.VarintMem
import Derived.Lib.Zigzag
namespace Go.Proofs.YbulkcrjaFmt
open Go.RowKit

theorem info5 : (Ybaf.prog.info? 5).map (fun i => (i.zero, i.size, i.bytes)) = some (some (.int .u8 0), 1, 1) := by kernel_rfl

/-- Below B, and wherever no row of bytes lies, all is as it was. -/
structure Kp (B : Nat) (w w' : World) : Prop where
  os : w'.os = w.os
  tape : w'.tape = w.tape
  output : w'.output = w.output
  size : w.heap.size ≤ w'.heap.size
  block : ∀ k, k < w.heap.size → (k < B ∨ ∀ cur fr, w.heap[k]? ≠ some (.cells cur 5 fr)) → w'.heap[k]? = w.heap[k]?

theorem Kp.refl (B : Nat) (w : World) : Kp B w w := ⟨rfl, rfl, rfl, Nat.le_refl _, fun _ _ _ => rfl⟩
theorem Kp.trans {B : Nat} {w w1 w2 : World} (h : Kp B w w1) (h' : Kp B w1 w2) : Kp B w w2 :=
  ⟨h'.os.trans h.os, h'.tape.trans h.tape, h'.output.trans h.output, Nat.le_trans h.size h'.size, fun k hk hc => by
    have e := h.block k hk hc
    have := h.size
    exact (h'.block k (by omega) (by rw [e]; exact hc)).trans e⟩
theorem Kp.grown {B : Nat} {w w1 w2 : World} (h : Kp B w w1) (hg : w1.grownBy w2 none) : Kp B w w2 :=
  h.trans ⟨hg.os, hg.tape, hg.output, hg.size, fun k hk _ => hg.block k hk (by simp)⟩
/-- An append onto a row of bytes from B on. -/
theorem Kp.app {B : Nat} {w w1 w2 : World} {v : Value} {n size : Nat} {xs : List Value} (h : Kp B w w1) (ho : w1.ownsRow B 5 size v n xs) (hg : w1.grownBy w2 v.ownBlock) : Kp B w w2 :=
  h.trans ⟨hg.os, hg.tape, hg.output, hg.size, fun k hk hc => hg.block k hk (fun e => by
    obtain ⟨cur, hcur⟩ := own_block ho k e.symm
    have := (ho.lt k e.symm).1
    rcases hc with h1 | h1
    · omega
    · exact h1 cur _ hcur)⟩
/-- A change of blocks that are new since w. -/
theorem Kp.fresh {B : Nat} {w w1 w2 : World} {r : Option Nat} (h : Kp B w w1) (hg : w1.grownBy w2 r) (hr : ∀ k, r = some k → w.heap.size ≤ k) : Kp B w w2 :=
  ⟨hg.os.trans h.os, hg.tape.trans h.tape, hg.output.trans h.output, Nat.le_trans h.size hg.size, fun k hk hc => by
    have e := h.block k hk hc
    have := h.size
    exact (hg.block k (by omega) (fun e' => by have := hr k e'.symm; omega)).trans e⟩
theorem Kp.below {B : Nat} {w w' : World} (h : Kp B w w') (hB : B ≤ w.heap.size) : Below B w w' := ⟨h.os, h.tape, h.output, h.size, fun k hk => h.block k (by omega) (.inl hk)⟩
theorem Kp.heap {B : Nat} {w w' : World} (h : Kp B w w') {k : Nat} {c : Array Value} {t : TypeId} {fr : Nat × Nat} (hk : w.heap[k]? = some (.cells c t fr)) (ht : t ≠ 5) : w'.heap[k]? = some (.cells c t fr) := by
  rw [h.block k (lt_heap hk) (.inr fun cur fr' e => by rw [hk] at e; simp at e; exact ht e.2.1)]
  exact hk
theorem Kp.own {B : Nat} {w w' : World} (h : Kp B w w') {base : Nat} {e : TypeId} {size : Nat} {v : Value} {n : Nat} {xs : List Value} (ho : w.ownsRow base e size v n xs) (he : e ≠ 5) : w'.ownsRow base e size v n xs := by
  refine ⟨ho.1, ?_⟩
  rcases ho.2 with hn | ⟨g, cap, cur, rfl, h1, h2, h3⟩
  · exact .inl hn
  · exact .inr ⟨g, cap, cur, rfl, h1, h.heap h2 he, h3⟩
theorem Kp.cell {B : Nat} {w w' : World} (h : Kp B w w') {a : Addr} {v : Value} (ha : w.cell? a = some v) (hb : a.block < B) : w'.cell? a = some v :=
  (World.cell?_of_block (h.block a.block (lt_cell ha) (.inl hb))).trans ha
theorem Kp.mono {B B' : Nat} {w w' : World} (h : Kp B w w') (hB : B' ≤ B) : Kp B' w w' := ⟨h.os, h.tape, h.output, h.size, fun k hk hc => h.block k hk (by rcases hc with h1 | h1; exact .inl (by omega); exact .inr h1)⟩

set_option maxHeartbeats 2000000 in
set_option maxRecDepth 100000 in
theorem au_c (B n x : Nat) (hx : x < 18446744073709551616) (sv : Value) (xs : List Value) (w : World) (hown : w.ownsRow B 5 1 sv n xs) (hBw : B ≤ w.heap.size) (hlim : n + 10 ≤ 140737488355328) :
    Calls Ybaf.prog 14 #[sv, .int .u64 x] w fun e w' => ∃ v', e = .returned v' ∧ w'.ownsRow B 5 1 v' (n + (Lib.uvarint x).length) (xs ++ Lib.byteCells (Lib.uvarint x)) ∧ Kp B w w' := by
  obtain ⟨i0, hi, hz0, hz1, hz2⟩ := info_parts info5
  have hlen := Lib.uvarint_length64 hx
  go_enter Ybaf.func14, Ybaf.ntmps14
  go_wp2
  go_loopw [0, 1] (fun vb vx wr => ∃ (y : Nat) (pre : List UInt8), vx = .int .u64 y ∧ y ≤ x ∧ Hid (Lib.uvarint x = pre ++ Lib.uvarint y) ∧ wr.ownsRow B 5 1 vb (n + pre.length) (xs ++ Lib.byteCells pre) ∧ Kp B w wr)
    (fun _ vx _ => (intOf vx).toNat)
  case atStart => exact ⟨x, [], rfl, Nat.le_refl _, rfl, by simpa [Lib.byteCells] using hown, Kp.refl _ _⟩
  case round =>
    obtain ⟨y, pre, rfl, hy, hsplit, hown1, hnx⟩ := hrel
    have hpl : pre.length + (Lib.uvarint y).length ≤ 10 := by
      have h2 := congrArg List.length (unhide hsplit)
      rw [List.length_append] at h2
      omega
    have hyp := Lib.uvarint_pos y
    have hsz := hnx.size
    by_cases h128 : 128 ≤ y
    · have hor : bits .or .u8 ((y : Int) % 256) 128 = ((y % 128 + 128 : Nat) : Int) := by
        rw [Lib.u8_or128_any _ (by omega) (by omega)]
        omega
      go_wp2_with (at_builtin; refine wpList_append_own _ rfl _ _ 28 rfl B 5 i0 (.int .u8 0) 1 1 Ybaf.underlying28 hi hz0 hz1 hz2 rfl (by decide) _ _ _ rfl (hown1.alloc _) ⟨wr.heap.size, 0, none⟩ 1 1 [Value.int .u8 ((y % 128 + 128 : Nat) : Int)] rfl rfl ?c1 ?c2 ?c3 ?c4 ?c5 ?_)
      case c1 =>
        intro j u hj
        match j, hj with
        | 0, hj => simp at hj; subst hj; simp [Addr.add]
      case c2 => intro u hu; simp at hu; subst hu; rfl
      case c3 => unfold maxLen; omega
      case c4 => omega
      case c5 => simp; omega
      intro v' w1 hown' hgrow _
      have hnx1 : Kp B w w1 := (hnx.grown (World.grownBy_alloc _ _ none)).app (hown1.alloc _) hgrow
      go_wp2
      go_roundw
      case rel =>
        refine ⟨y / 128, pre ++ [(y % 128 + 128).toUInt8], by go_num, by omega, by show Lib.uvarint x = _; rw [unhide hsplit, Lib.uvarint_big h128]; simp, ?_, hnx1⟩
        have ec : ((y % 128 + 128 : Nat) : Int) = (y : Int) % 128 + 128 := by omega
        rw [Lib.byteCells_snoc pre (by omega), List.length_append, List.length_singleton, ← Nat.add_assoc, ec]
        exact hown'
      case measure => simp [intOf]; omega
    · have hsm : Lib.uvarint y = [y.toUInt8] := Lib.uvarint_small (by omega)
      have HSM := hide hsm
      clear hsm
      go_wp2_with (at_builtin; refine wpList_append_own _ rfl _ _ 28 rfl B 5 i0 (.int .u8 0) 1 1 Ybaf.underlying28 hi hz0 hz1 hz2 rfl (by decide) _ _ _ rfl (hown1.alloc _) ⟨wr.heap.size, 0, none⟩ 1 1 [Value.int .u8 (y : Int)] rfl rfl ?c1 ?c2 ?c3 ?c4 ?c5 ?_)
      case c1 =>
        intro j u hj
        match j, hj with
        | 0, hj => simp at hj; subst hj; simp [Addr.add]
      case c2 => intro u hu; simp at hu; subst hu; rfl
      case c3 => unfold maxLen; omega
      case c4 => omega
      case c5 => simp; omega
      intro v' w1 hown' hgrow _
      have hnx1 : Kp B w w1 := (hnx.grown (World.grownBy_alloc _ _ none)).app (hown1.alloc _) hgrow
      go_wp2
      go_ret
      refine ⟨v', rfl, ?_, hnx1⟩
      rw [unhide hsplit, unhide HSM, Lib.byteCells_snoc pre (by omega), List.length_append, List.length_singleton, ← Nat.add_assoc]
      exact hown'

theorem av_c (B n : Nat) (x : Int) (h0 : -9223372036854775808 ≤ x) (h1 : x ≤ 9223372036854775807) (sv : Value) (xs : List Value) (w : World) (hown : w.ownsRow B 5 1 sv n xs) (hBw : B ≤ w.heap.size) (hlim : n + 10 ≤ 140737488355328) :
    Calls Ybaf.prog 13 #[sv, .int .i64 x] w fun e w' => ∃ v', e = .returned v' ∧ w'.ownsRow B 5 1 v' (n + (Lib.uvarint (Lib.zigzag x)).length) (xs ++ Lib.byteCells (Lib.uvarint (Lib.zigzag x))) ∧ Kp B w w' := by
  have hU := au_c B n (Lib.zigzag x) (Lib.zigzag_lt h0 h1) sv xs w hown hBw hlim
  by_cases hneg : x < 0
  · rw [← Lib.zigzag_neg h0 hneg] at hU
    have HU := hide hU
    clear hU
    go_enter Ybaf.func13, Ybaf.ntmps13
    go_wp2_with fail
    refine (unhide HU).mono ?_
    rintro e w1 ⟨v', rfl, ho, hb⟩
    go_wp2
    go_ret
    exact ⟨v', rfl, ho, hb⟩
  · rw [Lib.zigzag_nonneg (by omega)] at hU
    have HU := hide hU
    clear hU
    go_enter Ybaf.func13, Ybaf.ntmps13
    go_wp2_with fail
    refine (unhide HU).mono ?_
    rintro e w1 ⟨v', rfl, ho, hb⟩
    go_wp2
    go_ret
    exact ⟨v', rfl, ho, hb⟩

end Go.Proofs.YbulkcrjaFmt
