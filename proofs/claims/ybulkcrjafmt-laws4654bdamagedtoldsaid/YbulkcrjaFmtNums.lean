/-
  Seat b4654aF: '(*decoder).numbers', as a contract.
-/
import Derived.Test.YbulkcrjaFmtRun
import Derived.LoopTactic
namespace Go.Proofs.YbulkcrjaFmt
open Go.RowKit Go.Extern.Stop Go.Stop Go.Extern

theorem info22 : (Ybaf.prog.info? 22).map (fun i => (i.zero, i.size, i.bytes)) = some (some (.int .u64 0), 1, 8) := by kernel_rfl

/-- k numbers off a decoder, whatever its state. -/
def numIt : Nat → Option (List UInt8) → List Nat × Option (List UInt8)
  | 0, s => ([], s)
  | k + 1, s => ((numIt k s).1 ++ [(uvS (numIt k s).2).1], (uvS (numIt k s).2).2)

theorem numIt_length (s : Option (List UInt8)) : ∀ k, (numIt k s).1.length = k
  | 0 => rfl
  | k + 1 => by simp [numIt, numIt_length s k]
theorem numIt_lt (s : Option (List UInt8)) : ∀ k, ∀ x ∈ (numIt k s).1, x < 18446744073709551616
  | 0 => by simp [numIt]
  | k + 1 => by
    intro x hx
    simp only [numIt, List.mem_append, List.mem_singleton] at hx
    rcases hx with hx | rfl
    · exact numIt_lt s k x hx
    · exact uvS_lt _
theorem numIt_bad : ∀ k, (numIt k none).2 = none
  | 0 => rfl
  | k + 1 => by simp only [numIt, numIt_bad k]; rfl

theorem numIt_eq (l : List UInt8) : ∀ k, match Pl.numsF k l with
    | none => (numIt k (some l)).2 = none
    | some (xs, l') => numIt k (some l) = (xs, some l')
  | 0 => rfl
  | k + 1 => by
    have ih := numIt_eq l k
    rw [Pl.numsF_snoc]
    simp only [Pl.Rd.andThen]
    cases h : Pl.numsF k l with
    | none =>
      rw [h] at ih
      simp only at ih ⊢
      simp only [numIt, ih]
      rfl
    | some p =>
      obtain ⟨xs, l1⟩ := p
      rw [h] at ih
      simp only at ih ⊢
      cases h2 : Pl.uvF l1 with
      | none =>
        simp only [numIt, ih]
        simp only [uvS, h2]
      | some q =>
        obtain ⟨x, l2⟩ := q
        simp only [numIt, ih, Pl.Rd.done]
        simp only [uvS, h2]

/-- '(*decoder).numbers'. -/
def numS (max : Nat) : Option (List UInt8) → List Nat × Option (List UInt8)
  | none => ([], none)
  | some l => match Pl.numbersF max l with
    | none => ([], none)
    | some (xs, l') => (xs, some l')

/-- What 'numbers' hands back: nil where the decoder has failed. -/
def NumRes (B : Nat) (w' : World) (v : Value) (xs : List Nat) : Option (List UInt8) → Prop
  | none => v = .slice none 0 0
  | some _ => w'.ownsRow B 22 1 v xs.length (xs.map fun x : Nat => Value.int .u64 x)

set_option maxHeartbeats 1000000 in
set_option maxRecDepth 100000 in
theorem nums_loop (F : Interp) (a : Addr) (bd max count : Nat) (hm : max ≤ 256) (hcm : count ≤ max) (w : World) (s s1 : Option (List UInt8)) (hE : Env F a w) (hD : Dec a bd w s) (h1 : uvS s = (count, s1)) (hlen : ∀ l, s1 = some l → count ≤ l.length) (hz : s1 = none → count = 0) :
    Calls Ybaf.prog 22 #[.pointer (some ⟨bd, 0, none⟩), .int .i64 max] w fun e w' => ∃ v, e = .returned v ∧ Dec a bd w' (numIt count s1).2 ∧ w.grownBy w' (some bd) ∧ Env F a w' ∧
      NumRes w.heap.size w' v (numIt count s1).1 (numIt count s1).2 := by
  obtain ⟨i22, hi, hz0, hz1, hz2⟩ := info_parts info22
  have H1 := hide h1
  have hcm' : (count : Int) ≤ (max : Int) := by omega
  have HL := hide hlen
  have HZ := hide hz
  clear h1 hlen hz
  go_enter Ybaf.func22, Ybaf.ntmps22
  go_wp2_with fail
  refine (uv_at F a bd _ s s1 count hE hD (unhide H1)).mono ?_
  rintro e w1 ⟨rfl, hD1, hg1, hE1⟩
  have hc0 : ∃ ao n c, w1.cell? ⟨bd, 0, none⟩ = some (.slice ao n c) ∧ count ≤ n ∧ n ≤ 9223372036854775807 := by
    cases s1 with
    | none =>
      obtain ⟨pb, txt, hb, _⟩ := hD1
      have := cell_heap hb 0
      simp only [List.getElem?_toArray, List.getElem?_cons_zero] at this
      exact ⟨_, _, _, this, by rw [unhide HZ rfl]; exact Nat.le_refl _, by decide⟩
    | some l =>
      obtain ⟨ao, c, hb, hB⟩ := hD1
      have := cell_heap hb 0
      simp only [List.getElem?_toArray, List.getElem?_cons_zero] at this
      have h1 := hB.1
      have h2 := hB.2.1
      exact ⟨_, _, _, this, unhide HL l rfl, by omega⟩
  obtain ⟨ao, n, c, hc0, hcn, hn⟩ := hc0
  have hcn' : (count : Int) ≤ (n : Int) := by omega
  have hlt := lt_cell hc0
  simp only at hlt
  have hs1 := hg1.size
  have hd1 : decide (max < count) = false := by simp; omega
  have hd2 : decide (n < count) = false := by simp; omega
  go_wp2_with (at_make; refine wpList_make_own _ rfl _ _ 24 rfl w.heap.size 22 i22 (.int .u64 0) 1 Ybaf.underlying24 hi hz0 hz1 _ _ _ count rfl rfl rfl ?b2 ?b3 ?b4 ?_)
  case b2 => rw [hz2]; omega
  case b3 => unfold maxLen; omega
  case b4 => exact hs1
  intro w2 hown2 hgr2
  have hD2 := hD1.grown hgr2
  have hE2 := hE1.kept hgr2 (by simp) (by simp)
  have hg2 : w.grownBy w2 (some bd) := gb_none hg1 hgr2
  generalize hgg : w1.heap.size = g at *
  clear hgg
  clear hD1 hE1 hg1 hgr2 hc0
  go_wp2
  go_loopw [6, 28] (fun vns vi wr => ∃ k : Nat, vi = .int .u64 k ∧ k ≤ count ∧ vns = .slice (some ⟨g, 0, none⟩) k count ∧ wr.ownsRow w.heap.size 22 1 (.slice (some ⟨g, 0, none⟩) k count) k ((numIt k s1).1.map fun x : Nat => Value.int .u64 x) ∧ Dec a bd wr (numIt k s1).2 ∧ w.grownBy wr (some bd) ∧ Env F a wr)
    (fun _ vi _ => count - (intOf vi).toNat)
  case atStart => exact ⟨0, rfl, Nat.zero_le _, rfl, hown2, hD2, hg2, hE2⟩
  case round =>
    obtain ⟨k, rfl, hk, rfl, hown, hDk, hgk, hEk⟩ := hrel
    clear hown2 hD2 hg2 hE2
    by_cases hlt' : k < count
    · have hki : (k : Int) < (count : Int) := by omega
      obtain ⟨x, st, hx⟩ : ∃ x st, uvS (numIt k s1).2 = (x, st) := ⟨_, _, rfl⟩
      have hxl : x < 18446744073709551616 := by have := uvS_lt (numIt k s1).2; rw [hx] at this; exact this
      have hnx : numIt (k + 1) s1 = ((numIt k s1).1 ++ [x], st) := by simp only [numIt, hx]
      have HX := hide hx
      have HN := hide hnx
      clear hx hnx
      go_wp2_with fail
      refine (uv_at F a bd _ _ _ _ hEk hDk (unhide HX)).mono ?_
      rintro e w3 ⟨rfl, hD3, hg3, hE3⟩
      have hsz := hgk.size
      have hsz3 := hg3.size
      have hown3 := (hown.kept hg3 (.inr (by simp [Value.ownBlock]; omega))).alloc (.cells #[.int .u64 x] 22)
      have hga := World.grownBy_alloc w3 (.cells #[.int .u64 x] 22) none
      go_wp2_with (at_builtin; refine wpList_append_fits _ rfl _ _ 24 rfl w.heap.size 22 i22 1 Ybaf.underlying24 hi hz1 g k count _ rfl hown3 ⟨w3.heap.size, 0, none⟩ 1 1 [.int .u64 x] rfl rfl ?c1 ?c2 ?c3 ?_)
      case c1 =>
        intro j u hj
        match j, hj with
        | 0, hj => simp at hj; subst hj; simp [Addr.add]
      case c2 => intro u hu; simp at hu; subst hu; rfl
      case c3 => omega
      intro w4 hown4 hgr4
      have hD4 : Dec a bd w4 st := (hD3.grown hga).kept hgr4 (by
        rintro b e
        cases e
        obtain ⟨cur, hcur⟩ := own_block hown3 g rfl
        exact ⟨cur, 22, _, hcur, by decide, by decide, by decide⟩)
      have hE4 : Env F a w4 := (hE3.kept hga (by simp) (by simp)).kept hgr4 (by simp; omega) (by
        obtain ⟨t, ht⟩ := hE.text
        have := lt_cell ht
        intro e
        simp only [Option.some.injEq] at e
        omega)
      have hg4 : w.grownBy w4 (some bd) := gb_trans (gb_none (gb_same hgk hg3) hga) hgr4 (fun q e => .inr (by cases e; exact hs1))
      go_wp2
      go_roundw
      case rel =>
        refine ⟨k + 1, by go_num, by omega, rfl, ?_, ?_, hg4, hE4⟩
        · rw [unhide HN]; simpa using hown4
        · rw [unhide HN]; exact hD4
      case measure => simp [intOf]; omega
    · obtain rfl : k = count := by omega
      have hki : ¬ (k : Int) < (k : Int) := by omega
      obtain ⟨st, hst⟩ : ∃ st, (numIt k s1).2 = st := ⟨_, rfl⟩
      rw [hst] at hDk
      have HST := hide hst
      clear hst
      cases st with
      | none =>
        obtain ⟨p, c1⟩ := dec_err_none hDk
        have hltb := lt_cell c1
        simp only at hltb
        go_wp2
        go_ret
        exact ⟨_, rfl, by rw [unhide HST]; exact hDk, hgk, hEk, by rw [unhide HST]; rfl⟩
      | some l =>
        have c1 := dec_err_some hDk
        have hltb := lt_cell c1
        simp only at hltb
        go_wp2
        go_ret
        refine ⟨_, rfl, by rw [unhide HST]; exact hDk, hgk, hEk, ?_⟩
        have := numIt_length s1 k
        rw [unhide HST]
        simp only [NumRes, this]
        exact hown

theorem numS_eq (max : Nat) (s s1 : Option (List UInt8)) (count : Nat) (h : uvS s = (count, s1)) (hc : count ≤ max) (hl : ∀ l, s1 = some l → count ≤ l.length) :
    (numS max s).2 = (numIt count s1).2 ∧ ((numS max s).2 ≠ none → (numS max s).1 = (numIt count s1).1) := by
  cases s with
  | none =>
    obtain ⟨rfl, rfl⟩ := uvS_bad h
    exact ⟨rfl, fun h => absurd rfl h⟩
  | some l =>
    cases s1 with
    | none =>
      have e : Pl.numbersF max l = none := by simp only [Pl.numbersF, Pl.Rd.andThen, uvS_none h]
      simp only [numS, e, numIt_bad]
      exact ⟨trivial, fun h => absurd rfl h⟩
    | some l1 =>
      have e : Pl.numbersF max l = Pl.numsF count l1 := by
        simp only [Pl.numbersF, Pl.Rd.andThen, uvS_some h, Pl.Rd.fits]
        rw [if_pos (by simp [hc, hl l1 rfl])]
      have hi := numIt_eq l1 count
      simp only [numS, e]
      cases hn : Pl.numsF count l1 with
      | none =>
        rw [hn] at hi
        simp only at hi
        exact ⟨hi.symm, fun h => absurd rfl h⟩
      | some p =>
        obtain ⟨xs, l'⟩ := p
        rw [hn] at hi
        simp only at hi
        rw [hi]
        exact ⟨rfl, fun _ => rfl⟩

set_option maxHeartbeats 1000000 in
set_option maxRecDepth 100000 in
theorem nums_over (F : Interp) (a : Addr) (bd max count : Nat) (hm : max ≤ 256) (w : World) (s : Option (List UInt8)) (l1 : List UInt8) (hE : Env F a w) (hD : Dec a bd w s) (h1 : uvS s = (count, some l1)) (hb : max < count ∨ l1.length < count) :
    Calls Ybaf.prog 22 #[.pointer (some ⟨bd, 0, none⟩), .int .i64 max] w fun e w' => ∃ v, e = .returned v ∧ Dec a bd w' none ∧ w.grownBy w' (some bd) ∧ Env F a w' ∧ v = .slice none 0 0 := by
  have hcl : count < 18446744073709551616 := by have := uvS_lt s; rw [h1] at this; exact this
  have H1 := hide h1
  clear h1
  by_cases hb1 : max < count
  · have hb1' : (max : Int) < (count : Int) := by omega
    clear hb
    go_enter Ybaf.func22, Ybaf.ntmps22
    go_wp2_with fail
    refine (uv_at F a bd _ s (some l1) count hE hD (unhide H1)).mono ?_
    rintro e w1 ⟨rfl, hD1, hg1, hE1⟩
    go_wp2_with fail
    refine (fail_c F bd _ a _ _ hE1 hD1).mono ?_
    rintro e w2 ⟨rfl, hD2, hg2⟩
    go_wp2
    go_ret
    exact ⟨_, rfl, hD2, gb_same hg1 hg2, hE1.dec hD1 hg2, rfl⟩
  · have hb2 : l1.length < count := by rcases hb with h | h; exact absurd h hb1; exact h
    have hb1' : ¬ (max : Int) < (count : Int) := by omega
    clear hb
    go_enter Ybaf.func22, Ybaf.ntmps22
    go_wp2_with fail
    refine (uv_at F a bd _ s (some l1) count hE hD (unhide H1)).mono ?_
    rintro e w1 ⟨rfl, hD1, hg1, hE1⟩
    have hD1' := hD1
    obtain ⟨ao, c, hbb, hB⟩ := hD1'
    have c0 := cell_heap hbb 0
    simp only [List.getElem?_toArray, List.getElem?_cons_zero] at c0
    have q1 := hB.1
    have q2 := hB.2.1
    clear hbb hB
    have hltb := lt_cell c0
    simp only at hltb
    have HD1 := hide hD1
    clear hD1
    generalize l1.length = n at *
    have hb2' : (n : Int) < (count : Int) := by omega
    go_wp2_with fail
    refine (fail_c F bd _ a _ _ hE1 (unhide HD1)).mono ?_
    rintro e w2 ⟨rfl, hD2, hg2⟩
    go_wp2
    go_ret
    exact ⟨_, rfl, hD2, gb_same hg1 hg2, hE1.dec (unhide HD1) hg2, rfl⟩

/-- '(*decoder).numbers'. -/
theorem numbers_c (F : Interp) (a : Addr) (bd max : Nat) (hm : max ≤ 256) (w : World) (s : Option (List UInt8)) (hE : Env F a w) (hD : Dec a bd w s) :
    Calls Ybaf.prog 22 #[.pointer (some ⟨bd, 0, none⟩), .int .i64 max] w fun e w' => ∃ v, e = .returned v ∧ Dec a bd w' (numS max s).2 ∧ w.grownBy w' (some bd) ∧ Env F a w' ∧ NumRes w.heap.size w' v (numS max s).1 (numS max s).2 := by
  obtain ⟨count, s1, h1⟩ : ∃ count s1, uvS s = (count, s1) := ⟨_, _, rfl⟩
  by_cases hok : count ≤ max ∧ ∀ l, s1 = some l → count ≤ l.length
  · have hz : s1 = none → count = 0 := by
      rintro rfl
      cases s with
      | none => exact (uvS_bad h1).1
      | some l =>
        have e : uvS (some l) = (0, none) := by simp only [uvS, uvS_none h1]
        rw [h1] at e
        simpa using e
    obtain ⟨e1, e2⟩ := numS_eq max s s1 count h1 hok.1 hok.2
    refine (nums_loop F a bd max count hm hok.1 w s s1 hE hD h1 hok.2 hz).mono ?_
    rintro e w' ⟨v, rfl, q1, q2, q3, q4⟩
    refine ⟨v, rfl, by rw [e1]; exact q1, q2, q3, ?_⟩
    cases hst : (numS max s).2 with
    | none => rw [← e1, hst] at q4; exact q4
    | some l =>
      rw [e2 (by rw [hst]; simp)]
      rw [← e1, hst] at q4
      exact q4
  · cases s1 with
    | none =>
      exfalso
      refine hok ⟨?_, by simp⟩
      cases s with
      | none => rw [(uvS_bad h1).1]; omega
      | some l =>
        have e : uvS (some l) = (0, none) := by simp only [uvS, uvS_none h1]
        rw [h1] at e
        have : count = 0 := by simpa using e
        omega
    | some l1 =>
      have hb : max < count ∨ l1.length < count := by
        by_cases h : max < count
        · exact .inl h
        · refine .inr ?_
          refine Nat.lt_of_not_le fun h2 => hok ⟨by omega, fun l e => ?_⟩
          cases e
          exact h2
      have es : numS max s = ([], none) := by
        cases s with
        | none => rfl
        | some l =>
          have e : Pl.numbersF max l = none := by
            simp only [Pl.numbersF, Pl.Rd.andThen, uvS_some h1, Pl.Rd.fits]
            rw [if_neg (by simp; omega)]
          simp only [numS, e]
      rw [es]
      refine (nums_over F a bd max count hm w s l1 hE hD h1 hb).mono ?_
      rintro e w' ⟨v, rfl, q1, q2, q3, rfl⟩
      exact ⟨_, rfl, q1, q2, q3, rfl⟩

end Go.Proofs.YbulkcrjaFmt
