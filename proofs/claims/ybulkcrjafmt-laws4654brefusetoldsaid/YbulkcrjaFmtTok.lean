/-
  Seat b4654aF: 'decodeToken', as contracts.
-/
import Derived.Test.YbulkcrjaFmtIds
namespace Go.Proofs.YbulkcrjaFmt
open Go.RowKit Go.Extern.Stop Go.Stop Go.Extern

/-- The zero token's cells. -/
def zeroTok : Array Value := #[.int .i64 0, .int .i64 0, .slice none 0 0, .int .u64 0, .slice none 0 0, .slice none 0 0, .int .i64 0]

theorem own_ne {w : World} {base : Nat} {e t : TypeId} {size : Nat} {v : Value} {n b : Nat} {xs : List Value} {cur : Array Value} {fr : Nat × Nat} (h : w.ownsRow base e size v n xs) (hb : w.heap[b]? = some (.cells cur t fr)) (hne : t ≠ e) : v.ownBlock ≠ some b := by
  intro hv
  obtain ⟨cur', h'⟩ := own_block h b hv
  rw [hb] at h'
  simp only [Option.some.injEq, Obj.cells.injEq] at h'
  exact hne h'.2.1

theorem slice_of {w : World} {base : Nat} {e : TypeId} {size : Nat} {v : Value} {n : Nat} {xs : List Value} (h : w.ownsRow base e size v n xs) : ∃ ao c, v = .slice ao n c := by
  rcases h.2 with ⟨rfl, h0⟩ | ⟨g, cap, cur, rfl, _⟩
  · rw [h0]; exact ⟨_, _, rfl⟩
  · exact ⟨_, _, rfl⟩

/-- The decoding under way: the decoder at bd, the token at tb, the result's place at rb; all that was there ahead of the call is as it was. -/
structure Tk (F : Interp) (a : Addr) (w0 : World) (rb bd tb : Nat) (w : World) (t : Array Value) (s : Option (List UInt8)) : Prop where
  env : Env F a w
  dec : Dec a bd w s
  tok : w.heap[tb]? = some (.cells t 35 (0, 0))
  res : w.heap[rb]? = some (.cells zeroTok 35 (0, 0))
  gb : w0.grownBy w none
  e0 : Env F a w0
  lrb : w0.heap.size ≤ rb
  lbd : rb < bd
  ltb : bd < tb

section
variable {F : Interp} {a : Addr} {w0 : World} {rb bd tb : Nat} {w w' : World} {t : Array Value} {s s' : Option (List UInt8)}

theorem Tk.call (h : Tk F a w0 rb bd tb w t s) (hg : w.grownBy w' (some bd)) (hD : Dec a bd w' s') (hE : Env F a w') : Tk F a w0 rb bd tb w' t s' := by
  have h1 := h.lbd
  have h2 := h.ltb
  have h3 := h.lrb
  refine ⟨hE, hD, ?_, ?_, gb_trans h.gb hg (fun k e => .inr (by cases e; omega)), h.e0, h3, h1, h2⟩
  · rw [hg.block tb (lt_heap h.tok) (by simp; omega)]; exact h.tok
  · rw [hg.block rb (lt_heap h.res) (by simp; omega)]; exact h.res

theorem Tk.grown (h : Tk F a w0 rb bd tb w t s) (hg : w.grownBy w' none) : Tk F a w0 rb bd tb w' t s :=
  h.call (gb_weak hg) (h.dec.grown hg) (h.env.kept hg (by simp) (by simp))

theorem heap_set {w : World} {b : Nat} {c : Array Value} {t : TypeId} (h : w.heap[b]? = some (.cells c t (0, 0))) (o : Nat) (v : Value) : (w.setCell ⟨b, o, none⟩ v).heap[b]? = some (.cells (c.setIfInBounds o v) t (0, 0)) := by
  simp [World.setCell, Array.getElem?_modify, h]

theorem Tk.store (h : Tk F a w0 rb bd tb w t s) (o : Nat) (v : Value) : Tk F a w0 rb bd tb (w.setCell ⟨tb, o, none⟩ v) (t.setIfInBounds o v) s := by
  have h1 := h.lbd
  have h2 := h.ltb
  have h3 := h.lrb
  have hg := gb_setCell w ⟨tb, o, none⟩ v
  simp only at hg
  obtain ⟨tx, ht⟩ := h.e0.text
  have ha := lt_cell ht
  have h0 := lt_cell h.e0.var
  simp only at h0
  refine ⟨h.env.kept hg (by simp; omega) (by simp; omega), h.dec.kept hg ?_, heap_set h.tok o v, ?_, gb_trans h.gb hg (fun k e => .inr (by cases e; omega)), h.e0, h3, h1, h2⟩
  · rintro b e
    cases e
    exact ⟨_, _, _, h.tok, by decide, by decide, by decide⟩
  · rw [hg.block rb (lt_heap h.res) (by simp; omega)]; exact h.res

/-- What a slice of the call's own holds stays through a call on the decoder, and through a store into the token. -/
theorem Tk.own_call (h : Tk F a w0 rb bd tb w t s) (hg : w.grownBy w' (some bd)) {base : Nat} {e : TypeId} {size : Nat} {v : Value} {n : Nat} {xs : List Value} (ho : w.ownsRow base e size v n xs) (he : e ≠ 86) : w'.ownsRow base e size v n xs := by
  obtain ⟨sv, ev, hb, _, _⟩ := h.dec.two
  exact ho.kept hg (.inr (own_ne ho hb (fun e' => he e'.symm)))
theorem Tk.own_store (h : Tk F a w0 rb bd tb w t s) (o : Nat) (x : Value) {base : Nat} {e : TypeId} {size : Nat} {v : Value} {n : Nat} {xs : List Value} (ho : w.ownsRow base e size v n xs) (he : e ≠ 35) : (w.setCell ⟨tb, o, none⟩ x).ownsRow base e size v n xs :=
  ho.kept (gb_setCell w ⟨tb, o, none⟩ x) (.inr (own_ne ho h.tok (fun e' => he e'.symm)))
end

theorem v_at (F : Interp) (a : Addr) (bd : Nat) (w : World) (s s' : Option (List UInt8)) (x : Int) (hE : Env F a w) (hD : Dec a bd w s) (h : vS s = (x, s')) :
    Calls Ybaf.prog 16 #[.pointer (some ⟨bd, 0, none⟩)] w fun e w' => e = .returned (.int .i64 x) ∧ Dec a bd w' s' ∧ w.grownBy w' (some bd) ∧ Env F a w' := by
  have := v_c F a bd w s hE hD
  rw [h] at this
  refine this.mono ?_
  rintro e w' ⟨rfl, h1, h2⟩
  exact ⟨rfl, h1, h2, hE.dec hD h2⟩

theorem ids_at (F : Interp) (a : Addr) (bd n max : Nat) (hn : n ≤ 256) (hm : max ≤ 1048576) (w : World) (s s' : Option (List UInt8)) (rs : List Pl.Run) (hE : Env F a w) (hD : Dec a bd w s) (h : identS n max s = (rs, s')) :
    Calls Ybaf.prog 18 #[.pointer (some ⟨bd, 0, none⟩), .int .i64 n, .int .i64 max] w fun e w' => ∃ v, e = .returned v ∧ Dec a bd w' s' ∧ w.grownBy w' (some bd) ∧ Env F a w' ∧ w'.ownsRow w.heap.size 95 4 v (Pl.total rs) (msgCells rs) := by
  have := ids_c F a bd n max hn hm w s hE hD
  rw [h] at this
  exact this

theorem nums_at (F : Interp) (a : Addr) (bd max : Nat) (hm : max ≤ 256) (w : World) (s s' : Option (List UInt8)) (xs : List Nat) (hE : Env F a w) (hD : Dec a bd w s) (h : numS max s = (xs, s')) :
    Calls Ybaf.prog 22 #[.pointer (some ⟨bd, 0, none⟩), .int .i64 max] w fun e w' => ∃ v, e = .returned v ∧ Dec a bd w' s' ∧ w.grownBy w' (some bd) ∧ Env F a w' ∧ NumRes w.heap.size w' v xs s' := by
  have := numbers_c F a bd max hm w s hE hD
  rw [h] at this
  exact this

theorem identS_total (n max : Nat) (s : Option (List UInt8)) : Pl.total (identS n max s).1 ≤ max := by
  cases s with
  | none => exact Nat.zero_le _
  | some l =>
    simp only [identS]
    cases h : Pl.identF n max l with
    | none => exact Nat.zero_le _
    | some p =>
      obtain ⟨rs, l'⟩ := p
      simp only
      simp only [Pl.identF, Pl.Rd.andThen, Pl.Rd.fits, Pl.limF] at h
      split at h
      · cases h
      · split at h
        · split at h
          · cases h
          · split at h
            · cases h
            · rename_i hm
              simp only [Option.some.injEq, Prod.mk.injEq] at h
              rw [← h.1]
              simpa using hm
        · cases h

/-- '(*decoder).segment' on the state. -/
def segS (start : Nat) (rs : List Pl.Run) (s : Option (List UInt8)) : Option (List UInt8) := if 18446744073709551615 - Pl.total rs < start then none else s

theorem seg_at (F : Interp) (a : Addr) (bd start : Nat) (rs : List Pl.Run) (v : Value) (base : Nat) (w : World) (s : Option (List UInt8)) (hE : Env F a w) (hD : Dec a bd w s) (hv : w.ownsRow base 95 4 v (Pl.total rs) (msgCells rs)) (ht : Pl.total rs ≤ 1048576) :
    Calls Ybaf.prog 20 #[.pointer (some ⟨bd, 0, none⟩), .int .u64 start, v] w fun e w' => ∃ st dv, e = .returned (.agg #[.int .u64 st, dv]) ∧ Dec a bd w' (segS start rs s) ∧ w.grownBy w' (some bd) ∧ Env F a w' ∧ (∃ ao k c, dv = .slice ao k c) ∧ (segS start rs s ≠ none → st = (start : Int) ∧ dv = v) := by
  obtain ⟨ao, c, rfl⟩ : ∃ ao c, v = .slice ao (Pl.total rs) c := by
    rcases hv.2 with ⟨rfl, h0⟩ | ⟨g, cap, cur, rfl, _⟩
    · rw [h0]; exact ⟨_, _, rfl⟩
    · exact ⟨_, _, rfl⟩
  refine (segment_c F a bd start (Pl.total rs) c ao (by omega) w s hE hD).mono ?_
  rintro e w' ⟨hg, hE', h⟩
  by_cases hc : 18446744073709551615 - Pl.total rs < start
  · rw [if_pos hc] at h
    obtain ⟨rfl, hD'⟩ := h
    have es : segS start rs s = none := if_pos hc
    rw [es]
    exact ⟨0, _, rfl, hD', hg, hE', ⟨_, _, _, rfl⟩, fun h => absurd rfl h⟩
  · rw [if_neg hc] at h
    obtain ⟨rfl, hD'⟩ := h
    have es : segS start rs s = s := if_neg hc
    rw [es]
    exact ⟨start, _, rfl, hD', hg, hE', ⟨_, _, _, rfl⟩, fun _ => ⟨rfl, rfl⟩⟩

attribute [local go_sem] call34 fguard fmt0r fmt1r fmt2r op3 op22 op9 ptrE elemE textE ptrW elemW textW

/-- A store of what is there already. -/
theorem setCell_id {w : World} {b o : Nat} {c : Array Value} {t : TypeId} {fr : Nat × Nat} {v : Value} (h : w.heap[b]? = some (.cells c t fr)) (hv : c[o]? = some v) : w.setCell ⟨b, o, none⟩ v = w := by
  have e : (w.setCell ⟨b, o, none⟩ v).heap = w.heap := by
    apply Array.ext_getElem?
    intro i
    simp only [World.setCell]
    rw [Array.getElem?_modify]
    by_cases hi : b = i
    · subst hi
      rw [if_pos rfl, h]
      simp only [Option.map_some, Option.isSome_none, Bool.false_eq_true, if_false, Option.some.injEq, Obj.cells.injEq, and_true]
      apply Array.ext_getElem?
      intro j
      rw [Array.getElem?_setIfInBounds]
      by_cases hj : o = j
      · subst hj
        have := (Array.getElem?_eq_some_iff.1 hv).1
        rw [if_pos rfl, if_pos this, hv]
      · rw [if_neg hj]
    · rw [if_neg hi]
  have e2 : w.setCell ⟨b, o, none⟩ v = { w with heap := (w.setCell ⟨b, o, none⟩ v).heap } := rfl
  rw [e2, e]

/-- Stores, one behind the other. -/
def sets (w : World) : List (Nat × Nat × Value) → World
  | [] => w
  | (b, o, v) :: L => sets (w.setCell ⟨b, o, none⟩ v) L

theorem own_sets {base : Nat} {e : TypeId} {size : Nat} {v : Value} {n : Nat} {xs : List Value} : ∀ (L : List (Nat × Nat × Value)) (w : World), w.ownsRow base e size v n xs → (∀ p ∈ L, v.ownBlock ≠ some p.1) → (sets w L).ownsRow base e size v n xs
  | [], _, h, _ => h
  | (b, o, x) :: L, w, h, hL => own_sets L _ (h.kept (gb_setCell w ⟨b, o, none⟩ x) (.inr (hL (b, o, x) (by simp)))) (fun p hp => hL p (by simp [hp]))
theorem gb_sets {w0 : World} : ∀ (L : List (Nat × Nat × Value)) (w : World), w0.grownBy w none → (∀ p ∈ L, w0.heap.size ≤ p.1) → w0.grownBy (sets w L) none
  | [], _, h, _ => h
  | (b, o, x) :: L, w, h, hL => gb_sets L _ (gb_trans h (gb_setCell w ⟨b, o, none⟩ x) (fun k e => .inr (by cases e; exact hL (b, o, x) (by simp)))) (fun p hp => hL p (by simp [hp]))

/-- It fails: the zero token, and an error that wraps the sentinel. -/
def ErrPost (a : Addr) (w : World) (e : Ending) (w' : World) : Prop :=
  ∃ pb txt, e = .returned (.tuple #[.agg zeroTok, .iface 116 (.pointer (some ⟨pb, 0, none⟩))]) ∧ w'.heap[pb]? = some (.cells #[.string txt, .iface 129 (.pointer (some a))] 171 (0, 0)) ∧ w.grownBy w' none

theorem err_end (a : Addr) (w w13 : World) (o1 : Obj) (txt : ByteArray) (h : w.grownBy w13 none) :
    ErrPost a w (.returned (.tuple #[.agg zeroTok, .iface 116 (.pointer (some ⟨w13.heap.size + 1, 0, none⟩))])) ((w13.alloc o1).alloc (.cells #[.string txt, .iface 129 (.pointer (some a))] 171)).drew := by
  refine ⟨w13.heap.size + 1, txt, rfl, ?_, gb_none (gb_none (gb_none h (World.grownBy_alloc _ _ none)) (World.grownBy_alloc _ _ none)) (gb_drew _ _)⟩
  have := heap_alloc_new (w13.alloc o1) (.cells #[.string txt, .iface 129 (.pointer (some a))] 171)
  rw [World.size_alloc] at this
  exact this

/-- It reads the token t. -/
def OkPost (w : World) (t : Pl.Tok) (e : Ending) (w' : World) : Prop :=
  ∃ pv dv av, e = .returned (.tuple #[.agg #[.int .i64 t.round, .int .i64 t.votes, pv, .int .u64 t.start, dv, av, .int .i64 t.census], .nilIface]) ∧
    w'.ownsRow w.heap.size 95 4 pv (Pl.total t.prop) (msgCells t.prop) ∧ w'.ownsRow w.heap.size 95 4 dv (Pl.total t.deliv) (msgCells t.deliv) ∧ w'.ownsRow w.heap.size 22 1 av t.acks.length (t.acks.map fun x : Nat => Value.int .u64 x) ∧ w.grownBy w' none

def TokPost (a : Addr) (w : World) (n : Nat) (t : Pl.Tok) (e : Ending) (w' : World) : Option (List UInt8) → Prop
  | none => ErrPost a w e w'
  | some _ => if n < t.votes ∨ n < t.census then ErrPost a w e w' else OkPost w t e w'

theorem own_base {w : World} {base base' : Nat} {e : TypeId} {size : Nat} {v : Value} {n : Nat} {xs : List Value} (h : w.ownsRow base e size v n xs) (hb : base' ≤ base) : w.ownsRow base' e size v n xs := by
  refine ⟨h.1, ?_⟩
  rcases h.2 with hn | ⟨g, cap, cur, rfl, h1, h2⟩
  · exact .inl hn
  · exact .inr ⟨g, cap, cur, rfl, Nat.le_trans hb h1, h2⟩

set_option maxHeartbeats 4000000 in
set_option maxRecDepth 100000 in
theorem tok_steps (F : Interp) (a : Addr) (ao : Option Addr) (c n : Nat) (body : List UInt8) (hn : n ≤ 256) (w : World) (hE : Env F a w) (hB : Bytes w ao c body)
    (round : Int) (votes start census : Nat) (prop deliv : List Pl.Run) (acks : List Nat) (s1 s2 s3 s4 s5 s7 s8 : Option (List UInt8))
    (h1 : vS (some body) = (round, s1)) (h2 : uvS s1 = (votes, s2)) (h3 : identS n (n * 1024) s2 = (prop, s3)) (h4 : uvS s3 = (start, s4)) (h5 : identS n (4 * (n * 1024)) s4 = (deliv, s5)) (h7 : numS n (segS start deliv s5) = (acks, s7)) (h8 : uvS s7 = (census, s8)) :
    Calls Ybaf.prog 9 #[.slice ao body.length c, .int .i64 n] w fun e w' => TokPost a w n ⟨round, votes, prop, start, deliv, acks, census⟩ e w' (endS s8) := by
  have HB := hide hB
  have hq1 := hB.1
  have hq2 := hB.2.1
  have b2 : votes < 18446744073709551616 := by have := uvS_lt s1; rw [h2] at this; exact this
  have b4 : start < 18446744073709551616 := by have := uvS_lt s3; rw [h4] at this; exact this
  have b8 : census < 18446744073709551616 := by have := uvS_lt s7; rw [h8] at this; exact this
  have b5 : Pl.total deliv ≤ 1048576 := by have := identS_total n (4 * (n * 1024)) s4; rw [h5] at this; simp only at this; omega
  have H1 := hide h1
  have H2 := hide h2
  have H3 := hide h3
  have H4 := hide h4
  have H5 := hide h5
  have H7 := hide h7
  have H8 := hide h8
  clear hB h1 h2 h3 h4 h5 h7 h8
  have hDD : Dec a (w.heap.size + 1) ((w.alloc (.cells zeroTok 35)).alloc (.cells #[.slice ao body.length c, .nilIface] 86)) (some body) := by
    refine ⟨ao, c, ?_, ?_⟩
    · have := heap_alloc_new (w.alloc (.cells zeroTok 35)) (.cells #[.slice ao body.length c, .nilIface] 86)
      rw [World.size_alloc] at this
      exact this
    · exact ((unhide HB).kept (World.grownBy_alloc w _ none) (by simp)).kept (World.grownBy_alloc _ _ none) (by simp)
  have hEE : Env F a ((w.alloc (.cells zeroTok 35)).alloc (.cells #[.slice ao body.length c, .nilIface] 86)) := (hE.kept (World.grownBy_alloc w _ none) (by simp) (by simp)).kept (World.grownBy_alloc _ _ none) (by simp) (by simp)
  have hRR : ((w.alloc (.cells zeroTok 35)).alloc (.cells #[.slice ao body.length c, .nilIface] 86)).heap[w.heap.size]? = some (.cells zeroTok 35 (0, 0)) := by
    rw [Below.heap_alloc _ _ _ (by simp)]
    exact heap_alloc_new w _
  have HD := hide hDD
  have HE := hide hEE
  have HR := hide hRR
  clear hDD hEE hRR
  generalize hL : body.length = L at *
  clear hL
  go_enter Ybaf.func9, Ybaf.ntmps9
  go_wp2_with fail
  refine (v_at F a (w.heap.size + 1) _ (some body) s1 round (unhide HE) (unhide HD) (unhide H1)).mono ?_
  rintro e w1 ⟨rfl, hD1, hg1, hE1⟩
  have hsz1 := hg1.size
  simp only [World.size_alloc] at hsz1
  go_wp2_with fail
  have hga := World.grownBy_alloc w1 (.cells #[.int .i64 round, .int .i64 0, .slice none 0 0, .int .u64 0, .slice none 0 0, .slice none 0 0, .int .i64 0] 35) none
  have K2 : Tk F a w w.heap.size (w.heap.size + 1) w1.heap.size (w1.alloc (.cells #[.int .i64 round, .int .i64 0, .slice none 0 0, .int .u64 0, .slice none 0 0, .slice none 0 0, .int .i64 0] 35)) #[.int .i64 round, .int .i64 0, .slice none 0 0, .int .u64 0, .slice none 0 0, .slice none 0 0, .int .i64 0] s1 := by
    refine ⟨hE1.kept hga (by simp) (by simp), hD1.grown hga, heap_alloc_new w1 _, ?_, ?_, hE, Nat.le_refl _, Nat.lt_succ_self _, by omega⟩
    · rw [Below.heap_alloc _ _ _ (by omega), hg1.block _ (by simp; omega) (by simp)]
      exact unhide HR
    · exact gb_none (gb_trans (gb_none (World.grownBy_alloc w _ none) (World.grownBy_alloc _ _ none)) hg1 (fun k e => .inr (by cases e; omega))) hga
  generalize w1.alloc (.cells #[.int .i64 round, .int .i64 0, .slice none 0 0, .int .u64 0, .slice none 0 0, .slice none 0 0, .int .i64 0] 35) = W2 at *
  generalize w1.heap.size = tb at *
  clear hga hE1 hD1 hg1 HB HD HE HR hsz1
  refine (uv_at F a _ _ s1 s2 votes K2.env K2.dec (unhide H2)).mono ?_
  rintro e w3 ⟨rfl, hD3, hg3, hE3⟩
  have K3 := K2.call hg3 hD3 hE3
  clear K2 hD3 hg3 hE3
  go_wp2_with fail
  refine (maxProposed_c n hn _).mono ?_
  rintro e w4 ⟨rfl, rfl⟩
  go_wp2_with fail
  refine (ids_at F a _ n (n * 1024) hn (by omega) _ s2 s3 prop K3.env K3.dec (unhide H3)).mono ?_
  rintro e w4 ⟨pv, rfl, hD4, hg4, hE4, hpv⟩
  have K4 := K3.call hg4 hD4 hE4
  have hpb := K3.gb.size
  clear K3 hD4 hg4 hE4
  obtain ⟨po, pc, rfl⟩ := slice_of hpv
  have t2 := cell_heap K4.tok 2
  have ft2 := frozen_heap K4.tok 2
  have lt := lt_heap K4.tok
  simp only [List.getElem?_toArray, List.getElem?_cons_zero, List.getElem?_cons_succ] at t2
  go_wp2_with fail
  have K5 := K4.store 2 (.slice po (Pl.total prop) pc)
  have hpv5 := K4.own_store 2 (.slice po (Pl.total prop) pc) hpv (by decide)
  simp only [List.setIfInBounds_toArray, List.set_cons_succ, List.set_cons_zero] at K5
  refine (uv_at F a _ _ s3 s4 start K5.env K5.dec (unhide H4)).mono ?_
  rintro e w6 ⟨rfl, hD6, hg6, hE6⟩
  have K6 := K5.call hg6 hD6 hE6
  have hpv6 := K5.own_call hg6 hpv5 (by decide)
  clear K4 K5 hpv hpv5 t2 ft2 lt hD6 hg6 hE6
  go_wp2_with fail
  refine (maxCarried_c n hn _).mono ?_
  rintro e w7 ⟨rfl, rfl⟩
  go_wp2_with fail
  refine (ids_at F a _ n (4 * (n * 1024)) hn (by omega) _ s4 s5 deliv K6.env K6.dec (unhide H5)).mono ?_
  rintro e w7 ⟨dv0, rfl, hD7, hg7, hE7, hdv7⟩
  have K7 := K6.call hg7 hD7 hE7
  have hpv7 := K6.own_call hg7 hpv6 (by decide)
  have hdb := K6.gb.size
  clear K6 hpv6 hD7 hg7 hE7
  go_wp2_with fail
  refine (seg_at F a _ start deliv dv0 _ _ s5 K7.env K7.dec hdv7 b5).mono ?_
  rintro e w8 ⟨st, dv, rfl, hD8, hg8, hE8, ⟨dao, dk, dc, rfl⟩, hseg⟩
  have K8 := K7.call hg8 hD8 hE8
  have hpv8 := K7.own_call hg8 hpv7 (by decide)
  have hdv8 := K7.own_call hg8 hdv7 (by decide)
  have HSG := hide hseg
  clear K7 hpv7 hdv7 hD8 hg8 hE8 hseg
  have t3 := cell_heap K8.tok 3
  have ft3 := frozen_heap K8.tok 3
  have t4 := cell_heap K8.tok 4
  have ft4 := frozen_heap K8.tok 4
  have lt := lt_heap K8.tok
  simp only [List.getElem?_toArray, List.getElem?_cons_zero, List.getElem?_cons_succ] at t3 t4
  go_wp2_with fail
  have K9 := (K8.store 3 (.int .u64 st)).store 4 (.slice dao dk dc)
  have hpv9 := (K8.store 3 (.int .u64 st)).own_store 4 (.slice dao dk dc) (K8.own_store 3 (.int .u64 st) hpv8 (by decide)) (by decide)
  have hdv9 := (K8.store 3 (.int .u64 st)).own_store 4 (.slice dao dk dc) (K8.own_store 3 (.int .u64 st) hdv8 (by decide)) (by decide)
  simp only [List.setIfInBounds_toArray, List.set_cons_succ, List.set_cons_zero] at K9
  refine (nums_at F a _ n hn _ _ s7 acks K9.env K9.dec (unhide H7)).mono ?_
  rintro e w10 ⟨av, rfl, hD10, hg10, hE10, hav10⟩
  have K10 := K9.call hg10 hD10 hE10
  have hpv10 := K9.own_call hg10 hpv9 (by decide)
  have hdv10 := K9.own_call hg10 hdv9 (by decide)
  have hab := K9.gb.size
  clear K8 K9 hpv8 hdv8 hpv9 hdv9 t3 ft3 t4 ft4 lt hD10 hg10 hE10
  obtain ⟨aao, ak, ac, rfl⟩ : ∃ ao k c, av = .slice ao k c := by
    cases s7 with
    | none => exact ⟨_, _, _, hav10⟩
    | some l => obtain ⟨ao, c, h⟩ := slice_of hav10; exact ⟨_, _, _, h⟩
  have t5 := cell_heap K10.tok 5
  have ft5 := frozen_heap K10.tok 5
  have lt := lt_heap K10.tok
  simp only [List.getElem?_toArray, List.getElem?_cons_zero, List.getElem?_cons_succ] at t5
  go_wp2_with fail
  have K11 := K10.store 5 (.slice aao ak ac)
  have hpv11 := K10.own_store 5 (.slice aao ak ac) hpv10 (by decide)
  have hdv11 := K10.own_store 5 (.slice aao ak ac) hdv10 (by decide)
  simp only [List.setIfInBounds_toArray, List.set_cons_succ, List.set_cons_zero] at K11
  have hav11 : NumRes w.heap.size (w10.setCell ⟨tb, 5, none⟩ (.slice aao ak ac)) (.slice aao ak ac) acks s7 := by
    cases s7 with
    | none => exact hav10
    | some l => exact own_base (K10.own_store 5 (.slice aao ak ac) hav10 (by decide)) hab
  refine (uv_at F a _ _ s7 s8 census K11.env K11.dec (unhide H8)).mono ?_
  rintro e w12 ⟨rfl, hD12, hg12, hE12⟩
  have K12 := K11.call hg12 hD12 hE12
  have hpv12 := K11.own_call hg12 hpv11 (by decide)
  have hdv12 := K11.own_call hg12 hdv11 (by decide)
  have hav12 : NumRes w.heap.size w12 (.slice aao ak ac) acks s7 := by
    cases s7 with
    | none => exact hav11
    | some l => exact K11.own_call hg12 hav11 (by decide)
  clear K10 K11 hpv10 hdv10 hpv11 hdv11 hav10 hav11 t5 ft5 lt hD12 hg12 hE12
  go_wp2_with fail
  refine (end_c F a _ _ s8 K12.env K12.dec).mono ?_
  rintro e w13 ⟨rfl, hD13, hg13, hE13⟩
  have K13 := K12.call hg13 hD13 hE13
  have hpv13 := own_base (K12.own_call hg13 hpv12 (by decide)) hpb
  have hdv13 := own_base (K12.own_call hg13 hdv12 (by decide)) hdb
  have hav13 : NumRes w.heap.size w13 (.slice aao ak ac) acks s7 := by
    cases s7 with
    | none => exact hav12
    | some l => exact K12.own_call hg13 hav12 (by decide)
  clear K12 hpv12 hdv12 hav12 hD13 hg13 hE13
  have r0 := cell_heap K13.res 0
  have r1 := cell_heap K13.res 1
  have r2 := cell_heap K13.res 2
  have r3 := cell_heap K13.res 3
  have r4 := cell_heap K13.res 4
  have r5 := cell_heap K13.res 5
  have r6 := cell_heap K13.res 6
  have fr0 := frozen_heap K13.res 0
  have fr1 := frozen_heap K13.res 1
  have fr2 := frozen_heap K13.res 2
  have fr3 := frozen_heap K13.res 3
  have fr4 := frozen_heap K13.res 4
  have fr5 := frozen_heap K13.res 5
  have fr6 := frozen_heap K13.res 6
  have lrb := lt_heap K13.res
  simp only [zeroTok, List.getElem?_toArray, List.getElem?_cons_zero, List.getElem?_cons_succ] at r0 r1 r2 r3 r4 r5 r6
  have z0 := setCell_id (o := 0) (v := .int .i64 0) K13.res rfl
  have z1 := setCell_id (o := 1) (v := .int .i64 0) K13.res rfl
  have z2 := setCell_id (o := 2) (v := .slice none 0 0) K13.res rfl
  have z3 := setCell_id (o := 3) (v := .int .u64 0) K13.res rfl
  have z4 := setCell_id (o := 4) (v := .slice none 0 0) K13.res rfl
  have z5 := setCell_id (o := 5) (v := .slice none 0 0) K13.res rfl
  have z6 := setCell_id (o := 6) (v := .int .i64 0) K13.res rfl
  obtain ⟨s9, hs9⟩ : ∃ s9, endS s8 = s9 := ⟨_, rfl⟩
  have H9 := hide hs9
  rw [hs9] at K13
  clear hs9
  have HPV := hide hpv13
  have HDV := hide hdv13
  have HAV := hide hav13
  clear hpv13 hdv13 hav13
  cases s9 with
  | none =>
    obtain ⟨pb, txt, hb13, hp13⟩ := K13.dec
    have d1 := cell_heap hb13 1
    simp only [List.getElem?_toArray, List.getElem?_cons_zero, List.getElem?_cons_succ] at d1
    have ld := lt_heap hb13
    have HP := hide hp13
    have HK := hide K13
    clear hb13 hp13 K13
    go_wp2
    go_region
    all_goals
      go_wp2
      refine bodyPost_ret (v := .tuple #[.agg zeroTok, .iface 116 (.pointer (some ⟨pb, 0, none⟩))]) (by simp [results, Ybaf.results9, go_sem, r0, r1, r2, r3, r4, r5, r6, zeroTok]) rfl ?_
      rw [unhide H9]
      exact ⟨pb, txt, rfl, unhide HP, gb_none (unhide HK).gb (gb_drew _ _)⟩
  | some l9 =>
    have d1 := dec_err_some K13.dec
    have ld := lt_cell d1
    simp only at ld
    obtain ⟨tx, htx⟩ := K13.env.text
    have hgv := K13.env.var
    have hF' := answers_open K13.env.ans
    obtain ⟨sh, hsh⟩ := opPlain "fmt.errorf"
    by_cases hv : n < votes
    · have hv' : (n : Int) < (votes : Int) := by omega
      have hop := hsh a tx (w13.alloc (.cells #[.iface 129 (.pointer (some a)), .iface 22 (.int .u64 votes), .iface 3 (.int .i64 n)] 20)) (cell_later ((Below.refl _ w13).alloc (Nat.le_refl _) _) htx)
      clear hsh htx
      have HK := hide K13
      clear K13
      go_wp2
      refine bodyPost_ret (v := .tuple #[.agg zeroTok, .iface 116 (.pointer (some ⟨w13.heap.size + 1, 0, none⟩))]) (by simp [results, Ybaf.results9, go_sem, r0, r1, r2, r3, r4, r5, r6, zeroTok, lrb]) rfl ?_
      rw [unhide H9]
      show ite _ _ _
      rw [if_pos (.inl hv)]
      exact err_end a w w13 _ _ (unhide HK).gb
    · by_cases hcs : n < census
      · have hv' : ¬ (n : Int) < (votes : Int) := by omega
        have hc' : (n : Int) < (census : Int) := by omega
        have hop := hsh a tx (w13.alloc (.cells #[.iface 129 (.pointer (some a)), .iface 22 (.int .u64 census), .iface 3 (.int .i64 n)] 20)) (cell_later ((Below.refl _ w13).alloc (Nat.le_refl _) _) htx)
        clear hsh htx
        have HK := hide K13
        clear K13
        go_wp2
        refine bodyPost_ret (v := .tuple #[.agg zeroTok, .iface 116 (.pointer (some ⟨w13.heap.size + 1, 0, none⟩))]) (by simp [results, Ybaf.results9, go_sem, r0, r1, r2, r3, r4, r5, r6, zeroTok, lrb]) rfl ?_
        rw [unhide H9]
        show ite _ _ _
        rw [if_pos (.inr hcs)]
        exact err_end a w w13 _ _ (unhide HK).gb
      · have hv' : ¬ (n : Int) < (votes : Int) := by omega
        have hc' : ¬ (n : Int) < (census : Int) := by omega
        clear hsh htx hgv hF' z0 z1 z2 z3 z4 z5 z6
        have t0 := cell_heap K13.tok 0
        have t1 := cell_heap K13.tok 1
        have t2 := cell_heap K13.tok 2
        have t3 := cell_heap K13.tok 3
        have t4 := cell_heap K13.tok 4
        have t5 := cell_heap K13.tok 5
        have t6 := cell_heap K13.tok 6
        have ft1 := frozen_heap K13.tok 1
        have ft6 := frozen_heap K13.tok 6
        have ltb := lt_heap K13.tok
        simp only [List.getElem?_toArray, List.getElem?_cons_zero, List.getElem?_cons_succ] at t0 t1 t2 t3 t4 t5 t6
        have l1 := K13.lbd
        have l2 := K13.ltb
        have hne : ¬ w.heap.size = tb := by omega
        have hne' : ¬ tb = w.heap.size := by omega
        have HK := hide K13
        have htok := K13.tok
        have hres := K13.res
        have HT := hide htok
        have HR := hide hres
        clear K13 htok hres
        go_wp2
        refine bodyPost_ret (v := .tuple #[.agg #[.int .i64 round, .int .i64 votes, .slice po (Pl.total prop) pc, .int .u64 st, .slice dao dk dc, .slice aao ak ac, .int .i64 census], .nilIface]) (by simp [results, Ybaf.results9, go_sem, r0, r1, r2, r3, r4, r5, r6]) rfl ?_
        have h8n : s8 ≠ none := by
          rintro rfl
          have := unhide H9
          cases this
        have h7n : s7 ≠ none := by
          rintro rfl
          exact h8n (uvS_bad (unhide H8)).2
        have h6n : segS start deliv s5 ≠ none := by
          intro e
          have := unhide H7
          rw [e] at this
          simp only [numS, Prod.mk.injEq] at this
          exact h7n this.2.symm
        obtain ⟨rfl, rfl⟩ := unhide HSG h6n
        have hav : w13.ownsRow w.heap.size 22 1 (.slice aao ak ac) acks.length (acks.map fun x : Nat => Value.int .u64 x) := by
          have := unhide HAV
          cases s7 with
          | none => exact absurd rfl h7n
          | some l => exact this
        rw [unhide H9]
        show ite _ _ _
        rw [if_neg (by show ¬ (n < votes ∨ n < census); omega)]
        refine ⟨.slice po (Pl.total prop) pc, .slice dao dk dc, .slice aao ak ac, rfl, ?_, ?_, ?_, ?_⟩
        · refine own_sets [(tb, 1, .int .i64 votes), (tb, 6, .int .i64 census), (w.heap.size, 0, .int .i64 round), (w.heap.size, 1, .int .i64 votes), (w.heap.size, 2, .slice po (Pl.total prop) pc), (w.heap.size, 3, .int .u64 start), (w.heap.size, 4, .slice dao dk dc), (w.heap.size, 5, .slice aao ak ac), (w.heap.size, 6, .int .i64 census)] w13 (unhide HPV) ?_
          have e1 := own_ne (unhide HPV) (unhide HT) (by decide)
          have e2 := own_ne (unhide HPV) (unhide HR) (by decide)
          simp [e1, e2]
        · refine own_sets [(tb, 1, .int .i64 votes), (tb, 6, .int .i64 census), (w.heap.size, 0, .int .i64 round), (w.heap.size, 1, .int .i64 votes), (w.heap.size, 2, .slice po (Pl.total prop) pc), (w.heap.size, 3, .int .u64 start), (w.heap.size, 4, .slice dao dk dc), (w.heap.size, 5, .slice aao ak ac), (w.heap.size, 6, .int .i64 census)] w13 (unhide HDV) ?_
          have e1 := own_ne (unhide HDV) (unhide HT) (by decide)
          have e2 := own_ne (unhide HDV) (unhide HR) (by decide)
          simp [e1, e2]
        · refine own_sets [(tb, 1, .int .i64 votes), (tb, 6, .int .i64 census), (w.heap.size, 0, .int .i64 round), (w.heap.size, 1, .int .i64 votes), (w.heap.size, 2, .slice po (Pl.total prop) pc), (w.heap.size, 3, .int .u64 start), (w.heap.size, 4, .slice dao dk dc), (w.heap.size, 5, .slice aao ak ac), (w.heap.size, 6, .int .i64 census)] w13 hav ?_
          have e1 := own_ne hav (unhide HT) (by decide)
          have e2 := own_ne hav (unhide HR) (by decide)
          simp [e1, e2]
        · refine gb_sets [(tb, 1, .int .i64 votes), (tb, 6, .int .i64 census), (w.heap.size, 0, .int .i64 round), (w.heap.size, 1, .int .i64 votes), (w.heap.size, 2, .slice po (Pl.total prop) pc), (w.heap.size, 3, .int .u64 start), (w.heap.size, 4, .slice dao dk dc), (w.heap.size, 5, .slice aao ak ac), (w.heap.size, 6, .int .i64 census)] w13 (unhide HK).gb ?_
          simp
          omega

end Go.Proofs.YbulkcrjaFmt
