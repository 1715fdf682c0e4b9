/-
  Seat b4654aF: '(*decoder).uvarint', '(*decoder).varint', as contracts over a decoder's state.
-/
import Derived.Test.YbulkcrjaFmtFail
import Derived.Test.YbulkcrjaFmtShelf
namespace Go.Proofs.YbulkcrjaFmt
open Go.RowKit Go.Extern.Stop Go.Stop Go.Extern

/-- binary.Uvarint off bytes that lie so. -/
theorem uvarint_lib (w : World) (ao : Option Addr) (c : Nat) (l : List UInt8) (hB : Bytes w ao c l) :
    Calls Ybaf.prog 32 #[.slice ao l.length c] w fun e w' => e = .returned (.tuple #[.int .u64 (Lib.uvarintDec l).1, .int .i64 (Lib.uvarintDec l).2]) ∧ w' = w := by
  by_cases hl : l = []
  · subst hl
    exact Ybaf.binary_Uvarint_empty ao c w
  · obtain ⟨g, o, cur, fr, rfl, _, hc⟩ := hB.2.2 hl
    exact Ybaf.binary_Uvarint g o l.length c l w rfl hc
theorem varint_lib (w : World) (ao : Option Addr) (c : Nat) (l : List UInt8) (hB : Bytes w ao c l) :
    Calls Ybaf.prog 30 #[.slice ao l.length c] w fun e w' => e = .returned (.tuple #[.int .i64 (Lib.varintDec l).1, .int .i64 (Lib.varintDec l).2]) ∧ w' = w := by
  by_cases hl : l = []
  · subst hl
    exact Ybaf.binary_Varint_empty ao c w
  · obtain ⟨g, o, cur, fr, rfl, _, hc⟩ := hB.2.2 hl
    exact Ybaf.binary_Varint g o l.length c l w rfl hc

theorem from_le : ∀ (l : List UInt8) (i acc : Nat), (Lib.uvarintFrom i acc l).2 ≤ (i : Int) + (l.length : Int)
  | [], i, acc => by simp [Lib.uvarintFrom]
  | b :: r, i, acc => by
    have ih := from_le r (i + 1) (acc + b.toNat % 128 * 2 ^ (7 * i))
    simp only [Lib.uvarintFrom, List.length_cons]
    split
    · show -((i : Int) + 1) ≤ _; omega
    · split
      · split
        · show -((i : Int) + 1) ≤ _; omega
        · show (i : Int) + 1 ≤ _; omega
      · omega
theorem dec_le (l : List UInt8) : (Lib.uvarintDec l).2 ≤ (l.length : Int) := by
  have := from_le l 0 0
  simpa [Lib.uvarintDec] using this

theorem uv_good (bd : Nat) (g o c n : Nat) (x : Nat) (k : Nat) (w : World) (hk : 0 < k) (hkn : k ≤ n) (hnc : n ≤ c) (hc : c ≤ 9223372036854775807) (hb : w.heap[bd]? = some (.cells #[.slice (some ⟨g, o, none⟩) n c, .nilIface] 86 (0, 0)))
    (hU : Calls Ybaf.prog 32 #[.slice (some ⟨g, o, none⟩) n c] w fun e w' => e = .returned (.tuple #[.int .u64 x, .int .i64 k]) ∧ w' = w) :
    Calls Ybaf.prog 17 #[.pointer (some ⟨bd, 0, none⟩)] w fun e w' => e = .returned (.int .u64 x) ∧ ∃ ao', w' = w.setCell ⟨bd, 0, none⟩ (.slice ao' (n - k) (c - k)) ∧ (¬ c = k → ao' = some ⟨g, o + k, none⟩) := by
  have hlt : bd < w.heap.size := lt_heap hb
  have h0 := cell_heap hb 0
  have f0 := frozen_heap hb 0
  simp only [List.getElem?_toArray, List.getElem?_cons_zero] at h0
  have HU := hide hU
  clear hb hU
  by_cases hck : c = k
  · subst hck
    go_enter Ybaf.func17, Ybaf.ntmps17
    go_wp2_with fail
    refine (unhide HU).mono ?_
    rintro e w' ⟨rfl, rfl⟩
    go_wp2
    go_ret
    exact ⟨rfl, some ⟨g, o, none⟩, by rw [Nat.sub_self, show n - c = 0 from by omega], fun h => absurd trivial h⟩
  · go_enter Ybaf.func17, Ybaf.ntmps17
    go_wp2_with fail
    refine (unhide HU).mono ?_
    rintro e w' ⟨rfl, rfl⟩
    go_wp2
    go_ret
    exact ⟨rfl, some ⟨g, o + k, none⟩, rfl, fun _ => rfl⟩

theorem uv_fail (F : Interp) (a : Addr) (bd : Nat) (sv : Value) (x : Nat) (k : Int) (w : World) (s : Option (List UInt8)) (hE : Env F a w) (hD : Dec a bd w s) (hk : k ≤ 0) (h0 : w.cell? ⟨bd, 0, none⟩ = some sv) (hsv : ∃ ao n c, sv = .slice ao n c)
    (hU : Calls Ybaf.prog 32 #[sv] w fun e w' => e = .returned (.tuple #[.int .u64 x, .int .i64 k]) ∧ w' = w) :
    Calls Ybaf.prog 17 #[.pointer (some ⟨bd, 0, none⟩)] w fun e w' => e = .returned (.int .u64 0) ∧ Dec a bd w' none ∧ w.grownBy w' (some bd) := by
  have hlt : bd < w.heap.size := lt_cell h0
  obtain ⟨ao, n, c, rfl⟩ := hsv
  have HU := hide hU
  have HE := hide hE
  have HD := hide hD
  clear hU hE hD
  go_enter Ybaf.func17, Ybaf.ntmps17
  go_wp2_with fail
  refine (unhide HU).mono ?_
  rintro e w' ⟨rfl, rfl⟩
  go_wp2_with fail
  refine (fail_c F bd _ a _ s (unhide HE) (unhide HD)).mono ?_
  rintro e w1 ⟨rfl, hD1, hg1⟩
  have HD1 := hide hD1
  clear hD1
  go_wp2
  go_ret
  exact ⟨rfl, unhide HD1, hg1⟩

theorem v_good (bd : Nat) (g o c n : Nat) (x : Int) (k : Nat) (w : World) (hk : 0 < k) (hkn : k ≤ n) (hnc : n ≤ c) (hc : c ≤ 9223372036854775807) (hb : w.heap[bd]? = some (.cells #[.slice (some ⟨g, o, none⟩) n c, .nilIface] 86 (0, 0)))
    (hU : Calls Ybaf.prog 30 #[.slice (some ⟨g, o, none⟩) n c] w fun e w' => e = .returned (.tuple #[.int .i64 x, .int .i64 k]) ∧ w' = w) :
    Calls Ybaf.prog 16 #[.pointer (some ⟨bd, 0, none⟩)] w fun e w' => e = .returned (.int .i64 x) ∧ ∃ ao', w' = w.setCell ⟨bd, 0, none⟩ (.slice ao' (n - k) (c - k)) ∧ (¬ c = k → ao' = some ⟨g, o + k, none⟩) := by
  have hlt : bd < w.heap.size := lt_heap hb
  have h0 := cell_heap hb 0
  have f0 := frozen_heap hb 0
  simp only [List.getElem?_toArray, List.getElem?_cons_zero] at h0
  have HU := hide hU
  clear hb hU
  by_cases hck : c = k
  · subst hck
    go_enter Ybaf.func16, Ybaf.ntmps16
    go_wp2_with fail
    refine (unhide HU).mono ?_
    rintro e w' ⟨rfl, rfl⟩
    go_wp2
    go_ret
    exact ⟨rfl, some ⟨g, o, none⟩, by rw [Nat.sub_self, show n - c = 0 from by omega], fun h => absurd trivial h⟩
  · go_enter Ybaf.func16, Ybaf.ntmps16
    go_wp2_with fail
    refine (unhide HU).mono ?_
    rintro e w' ⟨rfl, rfl⟩
    go_wp2
    go_ret
    exact ⟨rfl, some ⟨g, o + k, none⟩, rfl, fun _ => rfl⟩

theorem v_fail (F : Interp) (a : Addr) (bd : Nat) (sv : Value) (x : Int) (k : Int) (w : World) (s : Option (List UInt8)) (hE : Env F a w) (hD : Dec a bd w s) (hk : k ≤ 0) (h0 : w.cell? ⟨bd, 0, none⟩ = some sv) (hsv : ∃ ao n c, sv = .slice ao n c)
    (hU : Calls Ybaf.prog 30 #[sv] w fun e w' => e = .returned (.tuple #[.int .i64 x, .int .i64 k]) ∧ w' = w) :
    Calls Ybaf.prog 16 #[.pointer (some ⟨bd, 0, none⟩)] w fun e w' => e = .returned (.int .i64 0) ∧ Dec a bd w' none ∧ w.grownBy w' (some bd) := by
  have hlt : bd < w.heap.size := lt_cell h0
  obtain ⟨ao, n, c, rfl⟩ := hsv
  have HU := hide hU
  have HE := hide hE
  have HD := hide hD
  clear hU hE hD
  go_enter Ybaf.func16, Ybaf.ntmps16
  go_wp2_with fail
  refine (unhide HU).mono ?_
  rintro e w' ⟨rfl, rfl⟩
  go_wp2_with fail
  refine (fail_c F bd _ a _ s (unhide HE) (unhide HD)).mono ?_
  rintro e w1 ⟨rfl, hD1, hg1⟩
  have HD1 := hide hD1
  clear hD1
  go_wp2
  go_ret
  exact ⟨rfl, unhide HD1, hg1⟩

/-- '(*decoder).uvarint'. -/
theorem uv_c (F : Interp) (a : Addr) (bd : Nat) (w : World) (s : Option (List UInt8)) (hE : Env F a w) (hD : Dec a bd w s) :
    Calls Ybaf.prog 17 #[.pointer (some ⟨bd, 0, none⟩)] w fun e w' => e = .returned (.int .u64 (uvS s).1) ∧ Dec a bd w' (uvS s).2 ∧ w.grownBy w' (some bd) := by
  cases s with
  | none =>
    have hD' := hD
    obtain ⟨pb, txt, h1, h2⟩ := hD'
    have h0 := cell_heap h1 0
    simp only [List.getElem?_toArray, List.getElem?_cons_zero] at h0
    have hb : Bytes w none 0 [] := ⟨Nat.le_refl _, by decide, fun h => absurd rfl h⟩
    have hU := uvarint_lib w none 0 [] hb
    exact uv_fail F a bd _ _ _ w none hE hD (by decide) h0 ⟨_, _, _, rfl⟩ hU
  | some l =>
    have hD' := hD
    obtain ⟨ao, c, h1, h2⟩ := hD'
    have h0 := cell_heap h1 0
    simp only [List.getElem?_toArray, List.getElem?_cons_zero] at h0
    have hU := uvarint_lib w ao c l h2
    by_cases hk : (Lib.uvarintDec l).2 ≤ 0
    · have e1 : uvS (some l) = (0, none) := by simp only [uvS, Pl.uvF, if_pos hk]
      rw [e1]
      exact uv_fail F a bd _ _ _ w (some l) hE hD hk h0 ⟨_, _, _, rfl⟩ hU
    · have e1 : uvS (some l) = ((Lib.uvarintDec l).1, some (l.drop (Lib.uvarintDec l).2.toNat)) := by simp only [uvS, Pl.uvF, if_neg hk]
      have hle : (Lib.uvarintDec l).2 ≤ (l.length : Int) := dec_le l
      have hl : l ≠ [] := by
        rintro rfl
        simp only [List.length_nil] at hle
        omega
      obtain ⟨g, o, cur, fr, rfl, hgb, hc⟩ := h2.2.2 hl
      rw [e1]
      generalize hx : (Lib.uvarintDec l).1 = x at *
      generalize hkk : (Lib.uvarintDec l).2 = k at *
      obtain ⟨kn, rfl⟩ := Int.eq_ofNat_of_zero_le (show 0 ≤ k by omega)
      simp only [Int.toNat_natCast]
      refine (uv_good bd g o c l.length x kn w (by omega) (by omega) h2.1 h2.2.1 h1 hU).mono ?_
      rintro e w' ⟨rfl, ao', rfl, hao⟩
      refine ⟨rfl, ⟨ao', c - kn, ?_, ?_⟩, gb_setCell _ _ _⟩
      · rw [heap_set0 h1, List.length_drop]
      · refine (h2.drop kn ao' (by omega) fun hd g' o' e => ?_).kept (gb_setCell w ⟨bd, 0, none⟩ _) fun b hb => ?_
        · simp only [Option.some.injEq, Addr.mk.injEq, and_true] at e
          obtain ⟨rfl, rfl⟩ := e
          refine hao fun e => hd ?_
          have := h2.1
          rw [List.drop_eq_nil_iff]
          omega
        · cases hb
          exact ⟨_, _, _, h1, by decide⟩

/-- '(*decoder).varint'. -/
theorem v_c (F : Interp) (a : Addr) (bd : Nat) (w : World) (s : Option (List UInt8)) (hE : Env F a w) (hD : Dec a bd w s) :
    Calls Ybaf.prog 16 #[.pointer (some ⟨bd, 0, none⟩)] w fun e w' => e = .returned (.int .i64 (vS s).1) ∧ Dec a bd w' (vS s).2 ∧ w.grownBy w' (some bd) := by
  cases s with
  | none =>
    have hD' := hD
    obtain ⟨pb, txt, h1, h2⟩ := hD'
    have h0 := cell_heap h1 0
    simp only [List.getElem?_toArray, List.getElem?_cons_zero] at h0
    have hb : Bytes w none 0 [] := ⟨Nat.le_refl _, by decide, fun h => absurd rfl h⟩
    have hU := varint_lib w none 0 [] hb
    exact v_fail F a bd _ _ _ w none hE hD (by decide) h0 ⟨_, _, _, rfl⟩ hU
  | some l =>
    have hD' := hD
    obtain ⟨ao, c, h1, h2⟩ := hD'
    have h0 := cell_heap h1 0
    simp only [List.getElem?_toArray, List.getElem?_cons_zero] at h0
    have hU := varint_lib w ao c l h2
    by_cases hk : (Lib.varintDec l).2 ≤ 0
    · have e1 : vS (some l) = (0, none) := by simp only [vS, Pl.vF, if_pos hk]
      rw [e1]
      exact v_fail F a bd _ _ _ w (some l) hE hD hk h0 ⟨_, _, _, rfl⟩ hU
    · have e1 : vS (some l) = ((Lib.varintDec l).1, some (l.drop (Lib.varintDec l).2.toNat)) := by simp only [vS, Pl.vF, if_neg hk]
      have hle : (Lib.varintDec l).2 ≤ (l.length : Int) := dec_le l
      have hl : l ≠ [] := by
        rintro rfl
        simp only [List.length_nil] at hle
        omega
      obtain ⟨g, o, cur, fr, rfl, hgb, hc⟩ := h2.2.2 hl
      rw [e1]
      generalize hx : (Lib.varintDec l).1 = x at *
      generalize hkk : (Lib.varintDec l).2 = k at *
      obtain ⟨kn, rfl⟩ := Int.eq_ofNat_of_zero_le (show 0 ≤ k by omega)
      simp only [Int.toNat_natCast]
      refine (v_good bd g o c l.length x kn w (by omega) (by omega) h2.1 h2.2.1 h1 hU).mono ?_
      rintro e w' ⟨rfl, ao', rfl, hao⟩
      refine ⟨rfl, ⟨ao', c - kn, ?_, ?_⟩, gb_setCell _ _ _⟩
      · rw [heap_set0 h1, List.length_drop]
      · refine (h2.drop kn ao' (by omega) fun hd g' o' e => ?_).kept (gb_setCell w ⟨bd, 0, none⟩ _) fun b hb => ?_
        · simp only [Option.some.injEq, Addr.mk.injEq, and_true] at e
          obtain ⟨rfl, rfl⟩ := e
          refine hao fun e => hd ?_
          have := h2.1
          rw [List.drop_eq_nil_iff]
          omega
        · cases hb
          exact ⟨_, _, _, h1, by decide⟩

end Go.Proofs.YbulkcrjaFmt
