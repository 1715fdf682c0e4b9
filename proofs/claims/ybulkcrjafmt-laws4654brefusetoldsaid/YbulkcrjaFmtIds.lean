/-
  Seat b4654aF: '(*decoder).identities', as a contract.
-/
import Derived.Test.YbulkcrjaFmtNums
import Derived.Laws.Bits64
namespace Go.Proofs.YbulkcrjaFmt
open Go.RowKit Go.Extern.Stop Go.Stop Go.Extern

theorem info95 : (Ybaf.prog.info? 95).map (fun i => (i.zero, i.size, i.bytes)) = some (some (.agg #[.int .i64 0, .int .u64 0, .int .u64 0, .slice none 0 0]), 4, 48) := by kernel_rfl

theorem wrap_succ (x j : Nat) : IntKind.u64.wrap ((x : Int) + (j : Int) + 1) = (((x + (j + 1)) % 18446744073709551616 : Nat) : Int) := by
  rw [IntKind.wrap_u64]
  omega
theorem wrap_back (x j : Nat) (h1 : 1 ≤ x) (h2 : x + j ≤ 18446744073709551616) : IntKind.u64.wrap ((((x + j) % 18446744073709551616 : Nat) : Int) - (x : Int)) = (j : Int) := by
  rw [IntKind.wrap_u64]
  omega

/-- A slice's length. -/
def sliceLen : Value → Nat
  | .slice _ n _ => n
  | _ => 0

/-- One message's cells. -/
def msgCell (r : Pl.Run) (j : Nat) : List Value := [.int .i64 r.s, .int .u64 r.inc, .int .u64 ((r.first + j : Nat) : Int), .slice none 0 0]
/-- The first j messages of a run. -/
def runCells (r : Pl.Run) : Nat → List Value
  | 0 => []
  | j + 1 => runCells r j ++ msgCell r j
/-- All messages of the runs. -/
def msgCells : List Pl.Run → List Value
  | [] => []
  | r :: rs => runCells r r.len ++ msgCells rs

theorem msgCells_snoc (rs : List Pl.Run) (r : Pl.Run) : msgCells (rs ++ [r]) = msgCells rs ++ runCells r r.len := by
  induction rs with
  | nil => simp [msgCells]
  | cons x rs ih => simp [msgCells, ih]

/-- '(*decoder).identities'. -/
def identS (n max : Nat) : Option (List UInt8) → List Pl.Run × Option (List UInt8)
  | none => ([], none)
  | some l => match Pl.identF n max l with
    | none => ([], none)
    | some (rs, l') => (rs, some l')

theorem identS_over (n max : Nat) {s : Option (List UInt8)} {count : Nat} {l1 : List UInt8} (h : uvS s = (count, some l1)) (hc : l1.length / 4 < count) : identS n max s = ([], none) := by
  cases s with
  | none => rfl
  | some l =>
    have e : Pl.identF n max l = none := by
      simp only [Pl.identF, Pl.Rd.andThen, uvS_some h, Pl.Rd.fits]
      rw [if_neg (by simp; omega)]
    simp only [identS, e]

theorem identS_runs (n max : Nat) {s : Option (List UInt8)} {count : Nat} {l1 : List UInt8} (h : uvS s = (count, some l1)) (hc : count ≤ l1.length / 4) :
    identS n max s = match Pl.runsF n count l1 with
      | none => ([], none)
      | some (rs, l') => if max < Pl.total rs then ([], none) else (rs, some l') := by
  cases s with
  | none => exact absurd (uvS_bad h).2 (by simp)
  | some l =>
    have e : Pl.identF n max l = match Pl.runsF n count l1 with
      | none => none
      | some (rs, l') => if max < Pl.total rs then none else some (rs, l') := by
      simp only [Pl.identF, Pl.Rd.andThen, uvS_some h, Pl.Rd.fits]
      rw [if_pos (by simpa using hc)]
      cases Pl.runsF n count l1 with
      | none => rfl
      | some p => simp [Pl.limF]
    simp only [identS, e]
    cases Pl.runsF n count l1 with
    | none => rfl
    | some p =>
      obtain ⟨rs, l'⟩ := p
      simp only
      by_cases ht : max < Pl.total rs
      · simp only [if_pos ht]
      · simp only [if_neg ht]

/-- A run that fails, or that is too long, fells the whole. -/
theorem identS_fell (n max : Nat) {s : Option (List UInt8)} {count k : Nat} {l1 : List UInt8} (h : uvS s = (count, some l1)) (hc : count ≤ l1.length / 4) (hk : k < count)
    (hf : ∀ rs l', Pl.runsF n (k + 1) l1 = some (rs, l') → max < Pl.total rs) : identS n max s = ([], none) := by
  rw [identS_runs n max h hc]
  cases hr : Pl.runsF n count l1 with
  | none => rfl
  | some p =>
    obtain ⟨rs, l'⟩ := p
    simp only
    obtain ⟨d, rfl⟩ : ∃ d, count = k + 1 + d := ⟨count - (k + 1), by omega⟩
    cases h2 : Pl.runsF n (k + 1) l1 with
    | none => rw [Pl.runsF_none n l1 d (k + 1) h2] at hr; cases hr
    | some q =>
      obtain ⟨rs2, l2⟩ := q
      have := hf rs2 l2 h2
      have := Pl.runsF_total n l1 d (k + 1) rs2 rs l2 l' h2 hr
      rw [if_pos (by omega)]

theorem runsF_step {n k : Nat} {l l' : List UInt8} {rs : List Pl.Run} (h : Pl.runsF n k l = some (rs, l')) :
    Pl.runsF n (k + 1) l = match Pl.runF n l' with
      | none => none
      | some (r, l2) => some (rs ++ [r], l2) := by
  rw [Pl.runsF_snoc]
  simp only [Pl.Rd.andThen, h]
  cases Pl.runF n l' with
  | none => rfl
  | some p => rfl

theorem runsF_before {n k d : Nat} {l l' : List UInt8} {rs : List Pl.Run} (h : Pl.runsF n (k + d) l = some (rs, l')) : ∃ rs2 l2, Pl.runsF n k l = some (rs2, l2) ∧ Pl.total rs2 ≤ Pl.total rs := by
  cases h2 : Pl.runsF n k l with
  | none => rw [Pl.runsF_none n l d k h2] at h; cases h
  | some q =>
    obtain ⟨rs2, l2⟩ := q
    exact ⟨rs2, l2, rfl, Pl.runsF_total n l d k rs2 rs l2 l' h2 h⟩

/-- A decoder stays where another one's block is written. -/
theorem Dec.beside {a : Addr} {bd br : Nat} {w w' : World} {s s' : Option (List UInt8)} (h : Dec a bd w s) (h' : Dec a br w s') (hne : br ≠ bd) (hg : w.grownBy w' (some br)) : Dec a bd w' s := by
  obtain ⟨sv, ev, hbr, _, _⟩ := h'.two
  have hne2 : ∀ b cur t fr, w.heap[b]? = some (.cells cur t fr) → t ≠ 86 → some b ≠ some br := by
    rintro b cur t fr hb ht e
    cases e
    rw [hbr] at hb
    simp only [Option.some.injEq, Obj.cells.injEq] at hb
    exact ht hb.2.1.symm
  have hbd : some bd ≠ some br := by simpa using fun e => hne e.symm
  cases s with
  | none =>
    obtain ⟨pb, txt, h1, h2⟩ := h
    exact ⟨pb, txt, by rw [hg.block bd (lt_heap h1) hbd]; exact h1, by rw [hg.block pb (lt_heap h2) (hne2 _ _ _ _ h2 (by decide))]; exact h2⟩
  | some l =>
    obtain ⟨ao, c, h1, h2⟩ := h
    exact ⟨ao, c, by rw [hg.block bd (lt_heap h1) hbd]; exact h1, h2.kept hg fun b e => by cases e; exact ⟨_, _, _, hbr, by decide⟩⟩

/-- '*d = runs': the failure is handed over. -/
theorem dec_over {a : Addr} {bd pb : Nat} {txt : ByteArray} {w : World} {s : Option (List UInt8)} (h : Dec a bd w s)
    (hp : w.heap[pb]? = some (.cells #[.string txt, .iface 129 (.pointer (some a))] 171 (0, 0))) :
    Dec a bd ((w.setCell ⟨bd, 0, none⟩ (.slice none 0 0)).setCell ⟨bd, 1, none⟩ (.iface 116 (.pointer (some ⟨pb, 0, none⟩)))) none ∧
      w.grownBy ((w.setCell ⟨bd, 0, none⟩ (.slice none 0 0)).setCell ⟨bd, 1, none⟩ (.iface 116 (.pointer (some ⟨pb, 0, none⟩)))) (some bd) := by
  obtain ⟨sv, ev, hb, _, _⟩ := h.two
  have hne : pb ≠ bd := by
    rintro rfl
    rw [hp] at hb
    simp at hb
  refine ⟨⟨pb, txt, heap_set1 (heap_set0 hb _) _, ?_⟩, gb_same (gb_setCell _ _ _) (gb_setCell _ _ _)⟩
  rw [Below.heap_setCell _ _ _ _ hne, Below.heap_setCell _ _ _ _ hne]
  exact hp

theorem runS_of_none {n : Nat} {l : List UInt8} (h : Pl.runF n l = none) : runS n (some l) = (⟨0, 0, 0, 0⟩, none) := by simp only [runS, h]
theorem runS_of_some {n : Nat} {l l' : List UInt8} {r : Pl.Run} (h : Pl.runF n l = some (r, l')) : runS n (some l) = (r, some l') := by simp only [runS, h]

theorem runF_fine {n : Nat} {l l' : List UInt8} {r : Pl.Run} (h : Pl.runF n l = some (r, l')) : r.s < n ∧ r.inc < 18446744073709551616 ∧ 1 ≤ r.first ∧ r.first + r.len ≤ 18446744073709551616 ∧ r.first < 18446744073709551616 := by
  simp only [Pl.runF, Pl.Rd.andThen] at h
  cases h1 : Pl.uvF l with
  | none => rw [h1] at h; cases h
  | some p1 =>
    obtain ⟨x1, l1⟩ := p1
    rw [h1] at h
    simp only at h
    cases h2 : Pl.uvF l1 with
    | none => rw [h2] at h; cases h
    | some p2 =>
      obtain ⟨x2, l2⟩ := p2
      rw [h2] at h
      simp only at h
      cases h3 : Pl.uvF l2 with
      | none => rw [h3] at h; cases h
      | some p3 =>
        obtain ⟨x3, l3⟩ := p3
        rw [h3] at h
        simp only at h
        cases h4 : Pl.uvF l3 with
        | none => rw [h4] at h; cases h
        | some p4 =>
          obtain ⟨x4, l4⟩ := p4
          rw [h4] at h
          simp only at h
          have b2 : x2 < 18446744073709551616 := by
            have := uvS_lt (some l1)
            simp only [uvS, h2] at this
            exact this
          have b3 : x3 < 18446744073709551616 := by
            have := uvS_lt (some l2)
            simp only [uvS, h3] at this
            exact this
          split at h
          · cases h
          · rename_i hb
            simp only [Option.some.injEq, Prod.mk.injEq] at h
            obtain ⟨rfl, _⟩ := h
            simp only [Pl.Run.bad, Bool.or_eq_true, decide_eq_true_eq, not_or] at hb
            show x1 < n ∧ x2 < _ ∧ 1 ≤ x3 ∧ x3 + x4 ≤ _ ∧ x3 < _
            omega

set_option maxHeartbeats 2000000 in
set_option maxRecDepth 100000 in
theorem ids_run (F : Interp) (a : Addr) (bd n max count : Nat) (hn : n ≤ 256) (hm : max ≤ 1048576) (w : World) (s : Option (List UInt8)) (l1 : List UInt8) (hE : Env F a w) (hD : Dec a bd w s) (h1 : uvS s = (count, some l1)) (hc : count ≤ l1.length / 4) :
    Calls Ybaf.prog 18 #[.pointer (some ⟨bd, 0, none⟩), .int .i64 n, .int .i64 max] w fun e w' => ∃ v, e = .returned v ∧ Dec a bd w' (identS n max s).2 ∧ w.grownBy w' (some bd) ∧ Env F a w' ∧
      w'.ownsRow w.heap.size 95 4 v (Pl.total (identS n max s).1) (msgCells (identS n max s).1) := by
  obtain ⟨i95, hi, hz0, hz1, hz2⟩ := info_parts info95
  have H1 := hide h1
  have HC := hide hc
  have hcl : count < 18446744073709551616 := by have := uvS_lt s; rw [h1] at this; exact this
  clear h1
  go_enter Ybaf.func18, Ybaf.ntmps18
  go_wp2_with fail
  refine (uv_at F a bd _ s (some l1) count hE hD (unhide H1)).mono ?_
  rintro e w1 ⟨rfl, hD1, hg1, hE1⟩
  have hD1' := hD1
  obtain ⟨ao, c, hbb, hB⟩ := hD1'
  have c0 := cell_heap hbb 0
  have c1 := cell_heap hbb 1
  simp only [List.getElem?_toArray, List.getElem?_cons_zero, List.getElem?_cons_succ] at c0 c1
  have q1 := hB.1
  have q2 := hB.2.1
  have HB := hide hB
  have HD1 := hide hD1
  clear hbb hB hD1 hc
  have hltb := lt_cell c0
  simp only at hltb
  have hs1 := hg1.size
  generalize hL : l1.length = L at *
  have HLL := hide hL
  clear hL
  have hcL : (count : Int) ≤ (L : Int) / 4 := by have := unhide HC; omega
  have hd1 : decide ((L : Int) / 4 < (count : Int)) = false := by simp; omega
  go_wp2_with fail
  have hga := World.grownBy_alloc w1 (.cells #[.slice ao L c, .nilIface] 86) none
  have hD2 : Dec a bd (w1.alloc (.cells #[.slice ao L c, .nilIface] 86)) (some l1) := (unhide HD1).grown hga
  have hR2 : Dec a w1.heap.size (w1.alloc (.cells #[.slice ao L c, .nilIface] 86)) (some l1) := ⟨ao, c, by rw [unhide HLL]; exact heap_alloc_new w1 _, (unhide HB).kept hga (by simp)⟩
  have hE2 := hE1.kept hga (by simp) (by simp)
  have hg2 : w.grownBy (w1.alloc (.cells #[.slice ao L c, .nilIface] 86)) (some bd) := gb_none hg1 hga
  have hsz2 : w1.heap.size < (w1.alloc (.cells #[.slice ao L c, .nilIface] 86)).heap.size := by simp
  generalize w1.alloc (.cells #[.slice ao L c, .nilIface] 86) = w2 at *
  generalize w1.heap.size = br at *
  clear c0 c1 hg1 hE1 HD1 HB hga
  go_loopw [9, 37] (fun vn vi wr => ∃ (k : Nat) (rs : List Pl.Run) (lk : List UInt8), vi = .int .u64 k ∧ k ≤ count ∧ Hid (Pl.runsF n k l1 = some (rs, lk)) ∧ Pl.total rs ≤ max ∧ vn = .int .i64 (Pl.total rs) ∧ Dec a br wr (some lk) ∧ Dec a bd wr (some l1) ∧ w.grownBy wr (some bd) ∧ Env F a wr)
    (fun _ vi _ => count - (intOf vi).toNat)
  case atStart => exact ⟨0, [], l1, rfl, Nat.zero_le _, rfl, Nat.zero_le _, rfl, hR2, hD2, hg2, hE2⟩
  case round =>
    obtain ⟨k, rs, lk, rfl, hk, hrs, htot, rfl, hRk, hDk, hgk, hEk⟩ := hrel
    clear hR2 hD2 hg2 hE2
    by_cases hlt' : k < count
    · have hki : (k : Int) < (count : Int) := by omega
      cases hrun : Pl.runF n lk with
      | none =>
        have hS := runS_of_none hrun
        have hfell : identS n max s = ([], none) := identS_fell n max (unhide H1) (by rw [unhide HLL]; exact unhide HC) hlt' (fun rs' l' h => by rw [runsF_step (unhide hrs), hrun] at h; cases h)
        have hrc := run_c F a br n hn wr (some lk) hEk hRk
        rw [hS] at hrc
        have HRC := hide hrc
        have HF := hide hfell
        clear hS hrun hrc hfell
        go_wp2_with fail
        refine (unhide HRC).mono ?_
        rintro e w3 ⟨rfl, hR3, hg3, hE3⟩
        have hD3 := hDk.beside hRk (by omega) hg3
        obtain ⟨pb, txt, hb3, hp3⟩ := hR3
        obtain ⟨sv, ev, hd3, _, _⟩ := hD3.two
        have r0 := cell_heap hb3 0
        have r1 := cell_heap hb3 1
        have d0 := cell_heap hd3 0
        have d1 := cell_heap hd3 1
        have fd0 := frozen_heap hd3 0
        have fd1 := frozen_heap hd3 1
        simp only [List.getElem?_toArray, List.getElem?_cons_zero, List.getElem?_cons_succ] at r0 r1 d0 d1
        have lt1 := lt_heap hb3
        have lt2 := lt_heap hd3
        have HO := hide (dec_over hD3 hp3)
        clear hb3 hd3 hp3
        go_wp2
        go_ret
        refine ⟨_, rfl, by rw [unhide HF]; exact (unhide HO).1, gb_trans (gb_trans hgk hg3 (fun q e => .inr (by cases e; exact hs1))) (unhide HO).2 (fun q e => .inl e), hE3.dec hD3 (unhide HO).2, ?_⟩
        rw [unhide HF]
        exact World.ownsRow_nil _ _ _ _
      | some p =>
        obtain ⟨r, l2⟩ := p
        have hS := runS_of_some hrun
        have hfine := runF_fine hrun
        have hstep : Pl.runsF n (k + 1) l1 = some (rs ++ [r], l2) := by rw [runsF_step (unhide hrs), hrun]
        have htot2 : Pl.total (rs ++ [r]) = Pl.total rs + r.len := by rw [Pl.total_append]; simp [Pl.total]
        have hrc := run_c F a br n hn wr (some lk) hEk hRk
        rw [hS] at hrc
        have HRC := hide hrc
        have HST := hide hstep
        have HT := hide htot2
        clear hS hrun hrc hstep htot2
        obtain ⟨rsn, rinc, rfirst, rlen⟩ := r
        obtain ⟨f1, f2, f3, f4, f5⟩ := hfine
        simp only at f1 f2 f3 f4 f5
        generalize hT0 : Pl.total rs = T at *
        have HT0 := hide hT0
        clear hT0
        by_cases hov : max - T < rlen
        · have hov' : (max : Int) - (T : Int) < (rlen : Int) := by omega
          have hfell : identS n max s = ([], none) := identS_fell n max (unhide H1) (by rw [unhide HLL]; exact unhide HC) hlt' (fun rs' l' h => by
            rw [unhide HST] at h
            simp only [Option.some.injEq, Prod.mk.injEq] at h
            rw [← h.1, unhide HT]
            show max < T + rlen
            omega)
          have HF := hide hfell
          clear hfell
          go_wp2_with fail
          refine (unhide HRC).mono ?_
          rintro e w3 ⟨rfl, hR3, hg3, hE3⟩
          have hD3 := hDk.beside hRk (by omega) hg3
          have r1 := dec_err_some hR3
          have lt1 := lt_cell r1
          simp only at lt1
          go_wp2_with fail
          refine (fail_c F br _ a _ _ hE3 hR3).mono ?_
          rintro e w4 ⟨rfl, hR4, hg4⟩
          have hD4 := hD3.beside hR3 (by omega) hg4
          have hE4 := hE3.dec hR3 hg4
          clear r1 lt1
          obtain ⟨pb, txt, hb3, hp3⟩ := hR4
          obtain ⟨sv, ev, hd3, _, _⟩ := hD4.two
          have r0 := cell_heap hb3 0
          have r1 := cell_heap hb3 1
          have d0 := cell_heap hd3 0
          have d1 := cell_heap hd3 1
          have fd0 := frozen_heap hd3 0
          have fd1 := frozen_heap hd3 1
          simp only [List.getElem?_toArray, List.getElem?_cons_zero, List.getElem?_cons_succ] at r0 r1 d0 d1
          have lt1 := lt_heap hb3
          have lt2 := lt_heap hd3
          have HO := hide (dec_over hD4 hp3)
          clear hb3 hd3 hp3
          go_wp2
          go_ret
          refine ⟨_, rfl, by rw [unhide HF]; exact (unhide HO).1, gb_trans (gb_trans (gb_trans hgk hg3 (fun q e => .inr (by cases e; exact hs1))) hg4 (fun q e => .inr (by cases e; exact hs1))) (unhide HO).2 (fun q e => .inl e), hE4.dec hD4 (unhide HO).2, ?_⟩
          rw [unhide HF]
          exact World.ownsRow_nil _ _ _ _
        · have hov' : ¬ ((max : Int) - (T : Int) < (rlen : Int)) := by omega
          go_wp2_with fail
          refine (unhide HRC).mono ?_
          rintro e w3 ⟨rfl, hR3, hg3, hE3⟩
          have hD3 := hDk.beside hRk (by omega) hg3
          have r1 := dec_err_some hR3
          have lt1 := lt_cell r1
          simp only at lt1
          go_wp2
          refine ⟨⟨k + 1, rs ++ [⟨rsn, rinc, rfirst, rlen⟩], l2, by go_num, by omega, HST, ?_, ?_, hR3, hD3, gb_trans hgk hg3 (fun q e => .inr (by cases e; exact hs1)), hE3⟩, by simp [intOf]; omega⟩
          · rw [unhide HT]; show T + rlen ≤ max; omega
          · rw [unhide HT]; go_num
    · obtain rfl : k = count := by omega
      have hki : ¬ (k : Int) < (k : Int) := by omega
      have hid : identS n max s = (rs, some lk) := by
        rw [identS_runs n max (unhide H1) (by rw [unhide HLL]; exact unhide HC), unhide hrs]
        simp only [if_neg (by omega : ¬ max < Pl.total rs)]
      have HID := hide hid
      clear hid
      generalize hT0 : Pl.total rs = T at *
      have HT0 := hide hT0
      clear hT0
      have hsk := hgk.size
      go_wp2_with (at_make; refine wpList_make_own _ rfl _ _ 29 rfl w.heap.size 95 i95 (.agg #[.int .i64 0, .int .u64 0, .int .u64 0, .slice none 0 0]) 4 Ybaf.underlying29 hi hz0 hz1 _ _ _ T rfl rfl rfl ?b2 ?b3 ?b4 ?_)
      case b2 => omega
      case b3 => unfold maxLen; omega
      intro w4 hown4 hgr4
      have hD4 := hDk.grown hgr4
      have hE4 := hEk.kept hgr4 (by simp) (by simp)
      have hg4 : w.grownBy w4 (some bd) := gb_none hgk hgr4
      have hlt4 : bd < wr.heap.size := by obtain ⟨sv, ev, hb, _⟩ := hDk.two; exact lt_heap hb
      generalize wr.heap.size = g at *
      clear hDk hRk hEk hgk hgr4
      go_wp2
      go_loopw [14, 72] (fun vms vi wr => ∃ (i : Nat) (ri : List Pl.Run) (li : List UInt8), vi = .int .u64 i ∧ i ≤ k ∧ Hid (Pl.runsF n i l1 = some (ri, li)) ∧ vms = .slice (some ⟨g, 0, none⟩) (Pl.total ri) T ∧ wr.ownsRow w.heap.size 95 4 (.slice (some ⟨g, 0, none⟩) (Pl.total ri) T) (Pl.total ri) (msgCells ri) ∧ Dec a bd wr (some li) ∧ w.grownBy wr (some bd) ∧ Env F a wr)
        (fun _ vi _ => k - (intOf vi).toNat)
      case atStart => exact ⟨0, [], l1, rfl, Nat.zero_le _, rfl, rfl, hown4, hD4, hg4, hE4⟩
      case round =>
        obtain ⟨i, ri, li, rfl, hik, hri, rfl, howni, hDi, hgi, hEi⟩ := hrel
        clear hown4 hD4 hg4 hE4
        by_cases hlt2 : i < k
        · have hii : (i : Int) < (k : Int) := by omega
          obtain ⟨rs2, l2, hrs2, htot2⟩ := runsF_before (n := n) (k := i + 1) (d := k - (i + 1)) (l := l1) (l' := lk) (rs := rs) (by rw [show i + 1 + (k - (i + 1)) = k from by omega]; exact hrs)
          rw [unhide HT0] at htot2
          have hst := runsF_step (unhide hri)
          rw [hrs2] at hst
          cases hrun : Pl.runF n li with
          | none => rw [hrun] at hst; cases hst
          | some p =>
            obtain ⟨r, l3⟩ := p
            rw [hrun] at hst
            simp only [Option.some.injEq, Prod.mk.injEq] at hst
            obtain ⟨rfl, rfl⟩ := hst
            have hS := runS_of_some hrun
            have hfine := runF_fine hrun
            have htot3 : Pl.total (ri ++ [r]) = Pl.total ri + r.len := by rw [Pl.total_append]; simp [Pl.total]
            have hmc := msgCells_snoc ri r
            have hrc := run_c F a bd n hn wr (some li) hEi hDi
            rw [hS] at hrc
            have HRC := hide hrc
            have HST := hide hrs2
            have HMC := hide hmc
            rw [htot3] at htot2
            have HT3 := hide htot3
            clear hS hrun hrc hrs2 htot3 hmc
            obtain ⟨rsn, rinc, rfirst, rlen⟩ := r
            obtain ⟨f1, f2, f3, f4, f5⟩ := hfine
            simp only at f1 f2 f3 f4 f5 htot2
            generalize hTi : Pl.total ri = Ti at *
            have HTi := hide hTi
            clear hTi
            go_wp2_with fail
            refine (unhide HRC).mono ?_
            rintro e w5 ⟨rfl, hD5, hg5, hE5⟩
            have hown5 := howni.kept hg5 (.inr (by simp [Value.ownBlock]; omega))
            have hg5' := gb_same hgi hg5
            clear howni hDi hgi hEi HRC
            go_wp2
            go_loopw [14, 19] (fun vms vs wr => ∃ (j : Nat), j ≤ rlen ∧ vs = .int .u64 (((rfirst + j) % 18446744073709551616 : Nat) : Int) ∧ vms = .slice (some ⟨g, 0, none⟩) (Ti + j) T ∧ wr.ownsRow w.heap.size 95 4 (.slice (some ⟨g, 0, none⟩) (Ti + j) T) (Ti + j) (msgCells ri ++ runCells ⟨rsn, rinc, rfirst, rlen⟩ j) ∧ Dec a bd wr (some l2) ∧ w.grownBy wr (some bd) ∧ Env F a wr)
              (fun vms _ _ => Ti + rlen - sliceLen vms)
            case atStart =>
              refine ⟨0, Nat.zero_le _, ?_, rfl, by simpa [runCells] using hown5, hD5, hg5', hE5⟩
              rw [Nat.add_zero, Nat.mod_eq_of_lt f5]
            case round =>
              obtain ⟨j, hj, rfl, rfl, hownj, hDj, hgj, hEj⟩ := hrel
              clear hown5 hD5 hg5' hE5
              by_cases hlt3 : j < rlen
              · have hq : (rfirst + j) % 18446744073709551616 = rfirst + j := Nat.mod_eq_of_lt (by omega)
                rw [hq]
                clear hq
                have hji : (rfirst : Int) + (j : Int) - (rfirst : Int) < (rlen : Int) := by omega
                have hga := World.grownBy_alloc wr (.cells #[.int .i64 rsn, .int .u64 rinc, .int .u64 ((rfirst : Int) + (j : Int)), .slice none 0 0] 95) none
                have howna := hownj.alloc (.cells #[.int .i64 rsn, .int .u64 rinc, .int .u64 ((rfirst : Int) + (j : Int)), .slice none 0 0] 95)
                go_wp2_with (at_builtin; refine wpList_append_fits _ rfl _ _ 29 rfl w.heap.size 95 i95 4 Ybaf.underlying29 hi hz1 g (Ti + j) T _ rfl howna ⟨wr.heap.size, 0, none⟩ 1 1 [.int .i64 rsn, .int .u64 rinc, .int .u64 ((rfirst : Int) + (j : Int)), .slice none 0 0] rfl rfl ?c1 ?c2 ?c3 ?_)
                case c1 =>
                  intro q u hq
                  match q, hq with
                  | 0, hq => simp at hq; subst hq; simp [Addr.add]
                  | 1, hq => simp at hq; subst hq; simp [Addr.add]
                  | 2, hq => simp at hq; subst hq; simp [Addr.add]
                  | 3, hq => simp at hq; subst hq; simp [Addr.add]
                case c2 => intro u hu; simp at hu; rcases hu with rfl | rfl | rfl | rfl <;> rfl
                case c3 => omega
                intro w6 hown6 hgr6
                have hD6 : Dec a bd w6 (some l2) := (hDj.grown hga).kept hgr6 (by
                  rintro b e
                  cases e
                  obtain ⟨cur, hcur⟩ := own_block howna g rfl
                  exact ⟨cur, 95, _, hcur, by decide, by decide, by decide⟩)
                have hE6 : Env F a w6 := (hEj.kept hga (by simp) (by simp)).kept hgr6 (by simp; omega) (by
                  obtain ⟨t, ht⟩ := hE.text
                  have := lt_cell ht
                  intro e
                  simp only [Option.some.injEq] at e
                  omega)
                have hg6 : w.grownBy w6 (some bd) := gb_trans (gb_none hgj hga) hgr6 (fun q e => .inr (by cases e; omega))
                go_wp2
                refine ⟨⟨j + 1, by omega, by rw [wrap_succ], by rw [Nat.add_assoc], ?_, hD6, hg6, hE6⟩, by simp only [sliceLen]; omega⟩
                rw [← Nat.add_assoc]
                simp only [runCells, msgCell]
                rw [← List.append_assoc]
                simpa using hown6
              · obtain rfl : j = rlen := by omega
                have hqw := wrap_back rfirst j f3 f4
                have hqb : (rfirst + j) % 18446744073709551616 < 18446744073709551616 := Nat.mod_lt _ (by decide)
                generalize (rfirst + j) % 18446744073709551616 = q at *
                go_wp2
                refine ⟨⟨i + 1, ri ++ [⟨rsn, rinc, rfirst, j⟩], l2, by go_num, by omega, HST, ?_, ?_, hDj, hgj, hEj⟩, by simp [intOf]; omega⟩
                · rw [unhide HT3]
                · rw [unhide HT3, unhide HMC]; exact hownj
        · obtain rfl : i = k := by omega
          have hii : ¬ (i : Int) < (i : Int) := by omega
          have he : ri = rs ∧ li = lk := by
            have := unhide hri
            rw [unhide hrs] at this
            simp only [Option.some.injEq, Prod.mk.injEq] at this
            exact ⟨this.1.symm, this.2.symm⟩
          obtain ⟨rfl, rfl⟩ := he
          go_wp2
          go_ret
          refine ⟨_, rfl, ?_, hgi, hEi, ?_⟩
          · rw [unhide HID]; exact hDi
          · rw [unhide HID]; exact howni

set_option maxHeartbeats 1000000 in
set_option maxRecDepth 100000 in
theorem ids_over (F : Interp) (a : Addr) (bd n max count : Nat) (w : World) (s : Option (List UInt8)) (l1 : List UInt8) (hE : Env F a w) (hD : Dec a bd w s) (h1 : uvS s = (count, some l1)) (hc : l1.length / 4 < count) :
    Calls Ybaf.prog 18 #[.pointer (some ⟨bd, 0, none⟩), .int .i64 n, .int .i64 max] w fun e w' => e = .returned (.slice none 0 0) ∧ Dec a bd w' none ∧ w.grownBy w' (some bd) ∧ Env F a w' := by
  have H1 := hide h1
  have HC := hide hc
  have hcl : count < 18446744073709551616 := by have := uvS_lt s; rw [h1] at this; exact this
  clear h1
  go_enter Ybaf.func18, Ybaf.ntmps18
  go_wp2_with fail
  refine (uv_at F a bd _ s (some l1) count hE hD (unhide H1)).mono ?_
  rintro e w1 ⟨rfl, hD1, hg1, hE1⟩
  have hD1' := hD1
  obtain ⟨ao, c, hbb, hB⟩ := hD1'
  have c0 := cell_heap hbb 0
  simp only [List.getElem?_toArray, List.getElem?_cons_zero] at c0
  have q1 := hB.1
  have q2 := hB.2.1
  have HD1 := hide hD1
  clear hbb hB hD1 hc
  have hltb := lt_cell c0
  simp only at hltb
  generalize hL : l1.length = L at *
  have hcL : (L : Int) / 4 < (count : Int) := by have := unhide HC; omega
  clear hL
  go_wp2_with fail
  refine (fail_c F bd _ a _ _ hE1 (unhide HD1)).mono ?_
  rintro e w2 ⟨rfl, hD2, hg2⟩
  go_wp2
  go_ret
  exact ⟨rfl, hD2, gb_same hg1 hg2, hE1.dec (unhide HD1) hg2⟩

set_option maxHeartbeats 1000000 in
set_option maxRecDepth 100000 in
theorem ids_bad (F : Interp) (a : Addr) (bd n max : Nat) (w : World) (s : Option (List UInt8)) (hE : Env F a w) (hD : Dec a bd w s) (h1 : uvS s = (0, none)) :
    Calls Ybaf.prog 18 #[.pointer (some ⟨bd, 0, none⟩), .int .i64 n, .int .i64 max] w fun e w' => ∃ v, e = .returned v ∧ Dec a bd w' none ∧ w.grownBy w' (some bd) ∧ Env F a w' ∧ w'.ownsRow w.heap.size 95 4 v 0 [] := by
  obtain ⟨i95, hi, hz0, hz1, hz2⟩ := info_parts info95
  have H1 := hide h1
  clear h1
  go_enter Ybaf.func18, Ybaf.ntmps18
  go_wp2_with fail
  refine (uv_at F a bd _ s none 0 hE hD (unhide H1)).mono ?_
  rintro e w1 ⟨rfl, hD1, hg1, hE1⟩
  have hD1' := hD1
  obtain ⟨pb, txt, hbb, hp⟩ := hD1'
  have c0 := cell_heap hbb 0
  have c1 := cell_heap hbb 1
  simp only [List.getElem?_toArray, List.getElem?_cons_zero, List.getElem?_cons_succ] at c0 c1
  clear hbb hp
  have hltb := lt_cell c0
  simp only at hltb
  have hs1 := hg1.size
  go_wp2
  refine wp_loop_rounds 1 ?_
  rw [rounds_succ]
  go_wp2_with (at_make; refine wpList_make_own _ rfl _ _ 29 rfl w.heap.size 95 i95 (.agg #[.int .i64 0, .int .u64 0, .int .u64 0, .slice none 0 0]) 4 Ybaf.underlying29 hi hz0 hz1 _ _ _ 0 rfl rfl rfl ?b2 ?b3 ?b4 ?_)
  case b2 => omega
  case b3 => unfold maxLen; omega
  case b4 => simp; omega
  intro w2 hown2 hgr2
  go_wp2
  refine wp_loop_rounds 1 ?_
  rw [rounds_succ]
  go_wp2
  go_ret
  have hga := World.grownBy_alloc w1 (.cells #[.slice none 0 0, .iface 116 (.pointer (some ⟨pb, 0, none⟩))] 86) none
  exact ⟨_, rfl, (hD1.grown hga).grown hgr2, gb_none (gb_none hg1 hga) hgr2, (hE1.kept hga (by simp) (by simp)).kept hgr2 (by simp) (by simp), hown2⟩

/-- '(*decoder).identities'. -/
theorem ids_c (F : Interp) (a : Addr) (bd n max : Nat) (hn : n ≤ 256) (hm : max ≤ 1048576) (w : World) (s : Option (List UInt8)) (hE : Env F a w) (hD : Dec a bd w s) :
    Calls Ybaf.prog 18 #[.pointer (some ⟨bd, 0, none⟩), .int .i64 n, .int .i64 max] w fun e w' => ∃ v, e = .returned v ∧ Dec a bd w' (identS n max s).2 ∧ w.grownBy w' (some bd) ∧ Env F a w' ∧
      w'.ownsRow w.heap.size 95 4 v (Pl.total (identS n max s).1) (msgCells (identS n max s).1) := by
  obtain ⟨count, s1, h1⟩ : ∃ count s1, uvS s = (count, s1) := ⟨_, _, rfl⟩
  cases s1 with
  | none =>
    have hz : count = 0 ∧ identS n max s = ([], none) := by
      cases s with
      | none => exact ⟨(uvS_bad h1).1, rfl⟩
      | some l =>
        have e : uvS (some l) = (0, none) := by simp only [uvS, uvS_none h1]
        rw [h1] at e
        refine ⟨by simpa using e, ?_⟩
        have e2 : Pl.identF n max l = none := by simp only [Pl.identF, Pl.Rd.andThen, uvS_none h1]
        simp only [identS, e2]
    obtain ⟨rfl, hz⟩ := hz
    rw [hz]
    exact ids_bad F a bd n max w s hE hD h1
  | some l1 =>
    by_cases hc : l1.length / 4 < count
    · rw [identS_over n max h1 hc]
      refine (ids_over F a bd n max count w s l1 hE hD h1 hc).mono ?_
      rintro e w' ⟨rfl, q1, q2, q3⟩
      exact ⟨_, rfl, q1, q2, q3, World.ownsRow_nil _ _ _ _⟩
    · exact ids_run F a bd n max count hn hm w s l1 hE hD h1 (by omega)

end Go.Proofs.YbulkcrjaFmt
