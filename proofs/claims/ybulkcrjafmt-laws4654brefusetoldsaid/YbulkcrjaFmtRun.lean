/-
  Seat b4654aF: '(*decoder).run', '(*decoder).end', '(*decoder).segment', the two limits, as contracts.
-/
import Derived.Test.YbulkcrjaFmtUv
import Derived.Outline
namespace Go.Proofs.YbulkcrjaFmt
open Go.RowKit Go.Extern.Stop Go.Stop Go.Extern

theorem uvS_lt (s : Option (List UInt8)) : (uvS s).1 < 18446744073709551616 := by
  cases s with
  | none => exact (by decide : (0 : Nat) < 18446744073709551616)
  | some l =>
    have := Lib.uvarintDec_lt l
    simp only [uvS, Pl.uvF]
    split
    · decide
    · rename_i h
      split at h
      · cases h
      · simp only [Option.some.injEq, Prod.mk.injEq] at h
        rw [← h.1]
        exact this

theorem uv_at (F : Interp) (a : Addr) (bd : Nat) (w : World) (s s' : Option (List UInt8)) (x : Nat) (hE : Env F a w) (hD : Dec a bd w s) (h : uvS s = (x, s')) :
    Calls Ybaf.prog 17 #[.pointer (some ⟨bd, 0, none⟩)] w fun e w' => e = .returned (.int .u64 x) ∧ Dec a bd w' s' ∧ w.grownBy w' (some bd) ∧ Env F a w' := by
  have := uv_c F a bd w s hE hD
  rw [h] at this
  refine this.mono ?_
  rintro e w' ⟨rfl, h1, h2⟩
  exact ⟨rfl, h1, h2, hE.dec hD h2⟩

theorem dec_err_none {a : Addr} {bd : Nat} {w : World} (h : Dec a bd w none) : ∃ p, w.cell? ⟨bd, 1, none⟩ = some (.iface 116 p) := by
  obtain ⟨pb, txt, h1, _⟩ := h
  have := cell_heap h1 1
  simp only [List.getElem?_toArray, List.getElem?_cons_zero, List.getElem?_cons_succ] at this
  exact ⟨_, this⟩
theorem dec_err_some {a : Addr} {bd : Nat} {w : World} {l : List UInt8} (h : Dec a bd w (some l)) : w.cell? ⟨bd, 1, none⟩ = some .nilIface := by
  obtain ⟨ao, c, h1, _⟩ := h
  have := cell_heap h1 1
  simp only [List.getElem?_toArray, List.getElem?_cons_zero, List.getElem?_cons_succ] at this
  exact this

/-- One run off a decoder. -/
def runS (n : Nat) : Option (List UInt8) → Pl.Run × Option (List UInt8)
  | none => (⟨0, 0, 0, 0⟩, none)
  | some l => match Pl.runF n l with
    | none => (⟨0, 0, 0, 0⟩, none)
    | some (r, l') => (r, some l')

theorem uvS_some {l : List UInt8} {x : Nat} {l' : List UInt8} (h : uvS (some l) = (x, some l')) : Pl.uvF l = some (x, l') := by
  simp only [uvS] at h
  cases h1 : Pl.uvF l with
  | none => rw [h1] at h; simp at h
  | some p => obtain ⟨y, l1⟩ := p; rw [h1] at h; simp at h; rw [h.1, h.2]
theorem uvS_none {l : List UInt8} {x : Nat} (h : uvS (some l) = (x, none)) : Pl.uvF l = none := by
  simp only [uvS] at h
  cases h1 : Pl.uvF l with
  | none => rfl
  | some p => obtain ⟨y, l1⟩ := p; rw [h1] at h; simp at h
theorem uvS_bad {x : Nat} {s : Option (List UInt8)} (h : uvS none = (x, s)) : x = 0 ∧ s = none := by
  simp only [uvS, Prod.mk.injEq] at h
  exact ⟨h.1.symm, h.2.symm⟩

theorem runS_none (n : Nat) {s s1 s2 s3 : Option (List UInt8)} {x1 x2 x3 x4 : Nat} (h1 : uvS s = (x1, s1)) (h2 : uvS s1 = (x2, s2)) (h3 : uvS s2 = (x3, s3)) (h4 : uvS s3 = (x4, none)) : runS n s = (⟨0, 0, 0, 0⟩, none) := by
  cases s with
  | none => rfl
  | some l =>
    have : Pl.runF n l = none := by
      simp only [Pl.runF, Pl.Rd.andThen]
      cases s1 with
      | none => rw [uvS_none h1]
      | some l1 =>
        rw [uvS_some h1]
        simp only
        cases s2 with
        | none => rw [uvS_none h2]
        | some l2 =>
          rw [uvS_some h2]
          simp only
          cases s3 with
          | none => rw [uvS_none h3]
          | some l3 => rw [uvS_some h3]; simp only; rw [uvS_none h4]
    simp only [runS, this]

theorem runS_some (n : Nat) {s s1 s2 s3 : Option (List UInt8)} {l4 : List UInt8} {x1 x2 x3 x4 : Nat} (h1 : uvS s = (x1, s1)) (h2 : uvS s1 = (x2, s2)) (h3 : uvS s2 = (x3, s3)) (h4 : uvS s3 = (x4, some l4)) :
    runS n s = if (Pl.Run.mk x1 x2 x3 x4).bad n then (⟨0, 0, 0, 0⟩, none) else (⟨x1, x2, x3, x4⟩, some l4) := by
  cases s3 with
  | none => exact absurd (uvS_bad h4).2 (by simp)
  | some l3 =>
    cases s2 with
    | none => exact absurd (uvS_bad h3).2 (by simp)
    | some l2 =>
      cases s1 with
      | none => exact absurd (uvS_bad h2).2 (by simp)
      | some l1 =>
        cases s with
        | none => exact absurd (uvS_bad h1).2 (by simp)
        | some l =>
          have : Pl.runF n l = if (Pl.Run.mk x1 x2 x3 x4).bad n then none else some (⟨x1, x2, x3, x4⟩, l4) := by
            simp only [Pl.runF, Pl.Rd.andThen, uvS_some h1, uvS_some h2, uvS_some h3, uvS_some h4]
          by_cases hb : (Pl.Run.mk x1 x2 x3 x4).bad n = true
          · rw [if_pos hb] at this
            simp only [runS, this, if_pos hb]
          · rw [if_neg hb] at this
            simp only [runS, this, if_neg hb]

set_option maxHeartbeats 1000000 in
theorem run_at (F : Interp) (a : Addr) (bd n : Nat) (hn : n ≤ 256) (w : World) (s s1 s2 s3 s4 : Option (List UInt8)) (x1 x2 x3 x4 : Nat) (hE : Env F a w) (hD : Dec a bd w s)
    (h1 : uvS s = (x1, s1)) (h2 : uvS s1 = (x2, s2)) (h3 : uvS s2 = (x3, s3)) (h4 : uvS s3 = (x4, s4)) :
    Calls Ybaf.prog 33 #[.pointer (some ⟨bd, 0, none⟩), .int .i64 n] w fun e w' =>
      e = .returned (.tuple #[.int .i64 (runS n s).1.s, .int .u64 (runS n s).1.inc, .int .u64 (runS n s).1.first, .int .u64 (runS n s).1.len]) ∧ Dec a bd w' (runS n s).2 ∧ w.grownBy w' (some bd) ∧ Env F a w' := by
  have b1 : x1 < 18446744073709551616 := by have := uvS_lt s; rw [h1] at this; exact this
  have b2 : x2 < 18446744073709551616 := by have := uvS_lt s1; rw [h2] at this; exact this
  have b3 : x3 < 18446744073709551616 := by have := uvS_lt s2; rw [h3] at this; exact this
  have b4 : x4 < 18446744073709551616 := by have := uvS_lt s3; rw [h4] at this; exact this
  have H1 := hide h1
  have H2 := hide h2
  have H3 := hide h3
  have H4 := hide h4
  clear h1 h2 h3 h4
  generalize hR : runS n s = R
  have HR := hide hR
  clear hR
  go_enter Ybaf.func33, Ybaf.ntmps33
  go_wp2_with fail
  refine (uv_at F a bd _ s s1 x1 hE hD (unhide H1)).mono ?_
  rintro e w1 ⟨rfl, hD1, hg1, hE1⟩
  go_wp2_with fail
  refine (uv_at F a bd _ s1 s2 x2 hE1 hD1 (unhide H2)).mono ?_
  rintro e w2 ⟨rfl, hD2, hg2, hE2⟩
  go_wp2_with fail
  refine (uv_at F a bd _ s2 s3 x3 hE2 hD2 (unhide H3)).mono ?_
  rintro e w3 ⟨rfl, hD3, hg3, hE3⟩
  go_wp2_with fail
  refine (uv_at F a bd _ s3 s4 x4 hE3 hD3 (unhide H4)).mono ?_
  rintro e w4 ⟨rfl, hD4, hg4, hE4⟩
  have hg := gb_same (gb_same (gb_same hg1 hg2) hg3) hg4
  clear hg1 hg2 hg3 hg4 hD1 hD2 hD3 hE1 hE2 hE3
  cases s4 with
  | none =>
    obtain ⟨p, c1⟩ := dec_err_none hD4
    have hlt := lt_cell c1
    simp only at hlt
    have hR := runS_none n (unhide H1) (unhide H2) (unhide H3) (unhide H4)
    rw [unhide HR] at hR
    subst hR
    go_wp2
    exact bodyPost_ret (v := .tuple #[.int .i64 0, .int .u64 0, .int .u64 0, .int .u64 0]) (by simp [results, Ybaf.results33, go_sem]) rfl ⟨rfl, hD4, hg, hE4⟩
  | some l4 =>
    have c1 := dec_err_some hD4
    have hlt := lt_cell c1
    simp only at hlt
    have hR := runS_some n (unhide H1) (unhide H2) (unhide H3) (unhide H4)
    rw [unhide HR] at hR
    by_cases ha : n ≤ x1
    · rw [if_pos (by simp [Pl.Run.bad, ha])] at hR
      subst hR
      have ha' : (n : Int) ≤ (x1 : Int) := by omega
      go_wp2_with fail
      refine (fail_c F bd _ a _ _ hE4 hD4).mono ?_
      rintro e w5 ⟨rfl, hD5, hg5⟩
      go_wp2
      exact bodyPost_ret (v := .tuple #[.int .i64 0, .int .u64 0, .int .u64 0, .int .u64 0]) (by simp [results, Ybaf.results33, go_sem]) rfl ⟨rfl, hD5, gb_same hg hg5, hE4.dec hD4 hg5⟩
    · by_cases hb : x3 = 0
      · rw [if_pos (by simp [Pl.Run.bad, hb])] at hR
        subst hR
        subst hb
        have ha' : (x1 : Int) < (n : Int) := by omega
        go_wp2_with fail
        refine (fail_c F bd _ a _ _ hE4 hD4).mono ?_
        rintro e w5 ⟨rfl, hD5, hg5⟩
        go_wp2
        exact bodyPost_ret (v := .tuple #[.int .i64 0, .int .u64 0, .int .u64 0, .int .u64 0]) (by simp [results, Ybaf.results33, go_sem]) rfl ⟨rfl, hD5, gb_same hg hg5, hE4.dec hD4 hg5⟩
      · have hb' : ((x3 : Int) == 0) = false := by simp; omega
        have ha' : (x1 : Int) < (n : Int) := by omega
        by_cases hc : 18446744073709551616 - x3 < x4
        · rw [if_pos (by simp [Pl.Run.bad, hc])] at hR
          subst hR
          go_wp2_with fail
          refine (fail_c F bd _ a _ _ hE4 hD4).mono ?_
          rintro e w5 ⟨rfl, hD5, hg5⟩
          go_wp2
          exact bodyPost_ret (v := .tuple #[.int .i64 0, .int .u64 0, .int .u64 0, .int .u64 0]) (by simp [results, Ybaf.results33, go_sem]) rfl ⟨rfl, hD5, gb_same hg hg5, hE4.dec hD4 hg5⟩
        · rw [if_neg (by simp [Pl.Run.bad, ha, hb, hc])] at hR
          subst hR
          go_wp2_with fail
          exact bodyPost_ret (v := .tuple #[.int .i64 x1, .int .u64 x2, .int .u64 x3, .int .u64 x4]) (by simp [results, Ybaf.results33, go_sem]) rfl ⟨rfl, hD4, hg, hE4⟩

/-- '(*decoder).run'. -/
theorem run_c (F : Interp) (a : Addr) (bd n : Nat) (hn : n ≤ 256) (w : World) (s : Option (List UInt8)) (hE : Env F a w) (hD : Dec a bd w s) :
    Calls Ybaf.prog 33 #[.pointer (some ⟨bd, 0, none⟩), .int .i64 n] w fun e w' =>
      e = .returned (.tuple #[.int .i64 (runS n s).1.s, .int .u64 (runS n s).1.inc, .int .u64 (runS n s).1.first, .int .u64 (runS n s).1.len]) ∧ Dec a bd w' (runS n s).2 ∧ w.grownBy w' (some bd) ∧ Env F a w' :=
  run_at F a bd n hn w s _ _ _ _ _ _ _ _ hE hD rfl rfl rfl rfl

/-- '(*decoder).end'. -/
def endS : Option (List UInt8) → Option (List UInt8)
  | some [] => some []
  | _ => none

theorem end_c (F : Interp) (a : Addr) (bd : Nat) (w : World) (s : Option (List UInt8)) (hE : Env F a w) (hD : Dec a bd w s) :
    Calls Ybaf.prog 23 #[.pointer (some ⟨bd, 0, none⟩)] w fun e w' => e = .returned (.tuple #[]) ∧ Dec a bd w' (endS s) ∧ w.grownBy w' (some bd) ∧ Env F a w' := by
  cases s with
  | none =>
    have hD' := hD
    obtain ⟨pb, txt, h1, h2⟩ := hD'
    have h0 := cell_heap h1 0
    simp only [List.getElem?_toArray, List.getElem?_cons_zero] at h0
    have hlt := lt_cell h0
    simp only at hlt
    clear h1 h2
    go_enter Ybaf.func23, Ybaf.ntmps23
    go_wp2
    go_end0
    exact ⟨rfl, hD, World.grownBy.refl _ _, hE⟩
  | some l =>
    have hD' := hD
    obtain ⟨ao, c, h1, h2⟩ := hD'
    have h0 := cell_heap h1 0
    simp only [List.getElem?_toArray, List.getElem?_cons_zero] at h0
    have hlt := lt_cell h0
    simp only at hlt
    have hb1 := h2.1
    have hb2 := h2.2.1
    clear h1 h2
    cases l with
    | nil =>
      simp only [List.length_nil] at h0
      go_enter Ybaf.func23, Ybaf.ntmps23
      go_wp2
      go_end0
      exact ⟨rfl, hD, World.grownBy.refl _ _, hE⟩
    | cons b l =>
      have hpos : 0 < (b :: l).length := by simp
      have HD := hide hD
      clear hD
      have hs : endS (some (b :: l)) = none := rfl
      rw [hs]
      generalize (b :: l).length = n at *
      have hpos' : (0 : Int) < (n : Int) := by omega
      go_enter Ybaf.func23, Ybaf.ntmps23
      go_wp2_with fail
      refine (fail_c F bd _ a _ _ hE (unhide HD)).mono ?_
      rintro e w5 ⟨rfl, hD5, hg5⟩
      go_wp2
      go_end0
      exact ⟨rfl, hD5, hg5, hE.dec (unhide HD) hg5⟩

theorem maxProposed_c (n : Nat) (hn : n ≤ 256) (w : World) : Calls Ybaf.prog 19 #[.int .i64 n] w fun e w' => e = .returned (.int .i64 (n * 1024 : Nat)) ∧ w' = w := by
  go_enter Ybaf.func19, Ybaf.ntmps19
  go_wp2
  go_ret
  exact ⟨by simp, rfl⟩
theorem maxCarried_c (n : Nat) (hn : n ≤ 256) (w : World) : Calls Ybaf.prog 21 #[.int .i64 n] w fun e w' => e = .returned (.int .i64 (4 * (n * 1024) : Nat)) ∧ w' = w := by
  go_enter Ybaf.func21, Ybaf.ntmps21
  go_wp2
  go_ret
  exact ⟨by simp, rfl⟩

/-- '(*decoder).segment'. -/
theorem segment_c (F : Interp) (a : Addr) (bd start n c : Nat) (ao : Option Addr) (hn : n ≤ 4611686018427387904) (w : World) (s : Option (List UInt8)) (hE : Env F a w) (hD : Dec a bd w s) :
    Calls Ybaf.prog 20 #[.pointer (some ⟨bd, 0, none⟩), .int .u64 start, .slice ao n c] w fun e w' => w.grownBy w' (some bd) ∧ Env F a w' ∧
      if 18446744073709551615 - n < start then e = .returned (.agg #[.int .u64 0, .slice none 0 0]) ∧ Dec a bd w' none
      else e = .returned (.agg #[.int .u64 start, .slice ao n c]) ∧ Dec a bd w' s := by
  by_cases h : 18446744073709551615 - n < start
  · simp only [if_pos h]
    go_enter Ybaf.func20, Ybaf.ntmps20
    go_wp2_with fail
    have hga := World.grownBy_alloc w (.cells #[.int .u64 0, .slice none 0 0] 33) none
    have hlt : bd < w.heap.size := by obtain ⟨sv, ev, hb, _⟩ := hD.two; exact lt_heap hb
    have hD' := hD.grown hga
    have hE' := hE.kept hga (by simp) (by simp)
    refine (fail_c F bd _ a _ _ hE' hD').mono ?_
    rintro e w1 ⟨rfl, hD1, hg1⟩
    have hE1 := hE'.dec hD' hg1
    have hb : w1.heap[w.heap.size]? = some (.cells #[.int .u64 0, .slice none 0 0] 33 (0, 0)) := by
      rw [hg1.block _ (by simp) (by simp; omega)]
      exact heap_alloc_new w _
    have c0 := cell_heap hb 0
    have c1 := cell_heap hb 1
    have f0 := frozen_heap hb 0
    have f1 := frozen_heap hb 1
    simp only [List.getElem?_toArray, List.getElem?_cons_zero, List.getElem?_cons_succ] at c0 c1
    have hlt1 := lt_heap hb
    have HB := hide hb
    clear hb
    go_wp2
    refine bodyPost_ret (v := .agg #[.int .u64 0, .slice none 0 0]) (by simp [results, Ybaf.results20, go_sem, c0, c1]) rfl ⟨?_, ?_, rfl, ?_⟩
    · exact gb_trans (gb_same (gb_weak hga) hg1) (gb_same (gb_setCell _ ⟨w.heap.size, 0, none⟩ _) (gb_setCell _ ⟨w.heap.size, 1, none⟩ _)) (fun k e => .inr (by cases e; exact Nat.le_refl _))
    · exact hE1.kept (gb_same (gb_setCell _ ⟨w.heap.size, 0, none⟩ _) (gb_setCell _ ⟨w.heap.size, 1, none⟩ _)) (by intro e; simp only [Option.some.injEq] at e; omega) (by obtain ⟨t, ht⟩ := hE.text; have := lt_cell ht; intro e; simp only [Option.some.injEq] at e; omega)
    · exact hD1.kept (gb_same (gb_setCell _ ⟨w.heap.size, 0, none⟩ _) (gb_setCell _ ⟨w.heap.size, 1, none⟩ _)) (by rintro b e; cases e; exact ⟨_, _, _, unhide HB, by decide, by decide, by decide⟩)
  · simp only [if_neg h]
    go_enter Ybaf.func20, Ybaf.ntmps20
    go_wp2_with fail
    have hga := World.grownBy_alloc w (.cells #[.int .u64 start, .slice ao n c] 33) none
    exact bodyPost_ret (v := .agg #[.int .u64 start, .slice ao n c]) (by simp [results, Ybaf.results20, go_sem]) rfl ⟨gb_weak hga, hE.kept hga (by simp) (by simp), rfl, hD.grown hga⟩
end Go.Proofs.YbulkcrjaFmt
