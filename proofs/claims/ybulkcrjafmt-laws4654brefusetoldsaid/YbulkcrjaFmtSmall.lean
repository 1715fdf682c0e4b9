/-
  Seat b4654aF: 'zzs4654bsame' off owned rows, 'zzs4654bsmall', and that what the encoder writes is fine.
-/
import Derived.Test.YbulkcrjaFmtSame
import Derived.Test.YbulkcrjaFmtDec
namespace Go.Proofs.YbulkcrjaFmt
open Go.RowKit Go.Extern.Stop Go.Stop Go.Extern

set_option maxHeartbeats 2000000 in
set_option maxRecDepth 100000 in
theorem same_empty (ao bo : Option Addr) (ca cb : Nat) (w : World) :
    Calls Ybaf.prog 10 #[.slice ao 0 ca, .slice bo 0 cb] w fun e w' => e = .returned (.bool true) ∧ w.grownBy w' none := by
  go_enter Ybaf.func10, Ybaf.ntmps10
  go_wp2
  go_loopw [5] (fun vi wr => vi = .int .i64 0 ∧ wr = w)
    (fun _ _ => 0)
  case atStart => exact ⟨rfl, rfl⟩
  case round =>
    obtain ⟨rfl, rfl⟩ := hrel
    go_wp2
    go_ret
    exact ⟨rfl, World.grownBy.refl _ _⟩

theorem same_c (w : World) (ba bb : Nat) (va vb : Value) (rs : List Pl.Run) (hn : Pl.total rs ≤ 4611686018427387904) (ha : w.ownsRow ba 95 4 va (Pl.total rs) (msgCells rs)) (hb : w.ownsRow bb 95 4 vb (Pl.total rs) (msgCells rs)) :
    Calls Ybaf.prog 10 #[va, vb] w fun e w' => e = .returned (.bool true) ∧ w.grownBy w' none := by
  obtain ⟨ms, h1, h2⟩ := msgCells_list rs
  by_cases h0 : Pl.total rs = 0
  · obtain ⟨ao, c, rfl⟩ := slice_of ha
    obtain ⟨bo, c', rfl⟩ := slice_of hb
    rw [h0]
    exact same_empty ao bo c c' w
  · rw [h2] at ha hb
    generalize Pl.total rs = n at *
    rcases ha.2 with ⟨he, _⟩ | ⟨g, cap, cur, rfl, _⟩
    · omega
    · rcases hb.2 with ⟨he, _⟩ | ⟨g', cap', cur', rfl, _⟩
      · omega
      · exact same_rows g g' n cap cap' ba bb ms h1 hn w ha hb

/-- The token is small enough for the law. -/
def In.small (t : In) : Prop := t.P.length ≤ 256 ∧ t.D.length ≤ 256 ∧ t.A.length ≤ 1024

set_option maxHeartbeats 2000000 in
set_option maxRecDepth 100000 in
theorem small_yes (t : In) (po dao aao : Option Addr) (pc dc ac : Nat) (w : World) (h : t.small) :
    Calls Ybaf.prog 7 #[.agg (t.cells po dao aao pc dc ac)] w fun e w' => e = .returned (.bool false) ∧ w.grownBy w' none := by
  obtain ⟨h1, h2, h3⟩ := h
  have k1 : ¬ (256 : Int) < (t.P.length : Int) := by omega
  have k2 : ¬ (256 : Int) < (t.D.length : Int) := by omega
  have k3 : ¬ (1024 : Int) < (t.A.length : Int) := by omega
  simp only [In.cells]
  go_enter Ybaf.func7, Ybaf.ntmps7
  go_wp2
  go_ret
  exact ⟨rfl, World.grownBy_alloc _ _ none⟩

set_option maxHeartbeats 2000000 in
set_option maxRecDepth 100000 in
theorem small_no (t : In) (po dao aao : Option Addr) (pc dc ac : Nat) (w : World) (h : ¬ t.small) :
    Calls Ybaf.prog 7 #[.agg (t.cells po dao aao pc dc ac)] w fun e w' => e = .returned (.bool true) ∧ w.grownBy w' none := by
  unfold In.small at h
  simp only [In.cells]
  by_cases k1 : (256 : Int) < (t.P.length : Int)
  · go_enter Ybaf.func7, Ybaf.ntmps7
    go_wp2
    go_ret
    exact ⟨rfl, World.grownBy_alloc _ _ none⟩
  · by_cases k2 : (256 : Int) < (t.D.length : Int)
    · go_enter Ybaf.func7, Ybaf.ntmps7
      go_wp2
      go_ret
      exact ⟨rfl, World.grownBy_alloc _ _ none⟩
    · have k3 : (1024 : Int) < (t.A.length : Int) := by omega
      go_enter Ybaf.func7, Ybaf.ntmps7
      go_wp2
      go_ret
      exact ⟨rfl, World.grownBy_alloc _ _ none⟩

theorem total_le (n : Nat) : ∀ L : List Raw, Pl.total (L.map (Raw.enc n)) ≤ 3 * L.length
  | [] => by simp [Pl.total]
  | r :: L => by
    have := total_le n L
    simp only [List.map_cons, Pl.total, List.length_cons, Raw.enc]
    omega

theorem enc_fine (n : Nat) (hn : n ≤ 256) (hn0 : 0 < n) (r : Raw) : (Raw.enc n r).fine n := by
  have h1 := r.i64
  have h2 := Nat.mod_lt r.first (show 1099511627776 > 0 by omega)
  have h3 := Nat.mod_lt r.len (show 4 > 0 by omega)
  exact ⟨Nat.mod_lt _ hn0, by omega, h1, by simp [Raw.enc], by simp only [Raw.enc]; omega, by simp only [Raw.enc]; omega, by simp only [Raw.enc]; omega⟩

theorem tok_fine (t : In) (h : t.small) (votes census : Nat) (hv : votes < 18446744073709551616) (hc : census < 18446744073709551616) : (t.tok votes census).fine (t.N + 1) := by
  have hN := t.N8
  obtain ⟨h1, h2, h3⟩ := h
  have hp := total_le (t.N + 1) t.P
  have hd := total_le (t.N + 1) t.D
  have hs := Nat.mod_lt t.start (show 4611686018427387904 > 0 by omega)
  refine ⟨t.r0, by have := t.r1; simp only [In.tok]; omega, hv, ?_, by simp only [In.tok, List.length_map]; omega, by simp only [In.tok]; omega, by simp only [In.tok]; omega, by simp only [In.tok]; omega, ?_,
    by simp only [In.tok, List.length_map]; omega, by simp only [In.tok]; omega, ?_, by simp only [In.tok, List.length_take]; omega, by simp only [In.tok, List.length_take]; omega, hc⟩
  · intro r hr
    simp only [In.tok, List.mem_map] at hr
    obtain ⟨x, _, rfl⟩ := hr
    exact enc_fine _ (by omega) (by omega) x
  · intro r hr
    simp only [In.tok, List.mem_map] at hr
    obtain ⟨x, _, rfl⟩ := hr
    exact enc_fine _ (by omega) (by omega) x
  · intro x hx
    exact t.A64 x (List.mem_of_mem_take hx)

/-- Bytes that a row owns are bytes. -/
theorem bytes_own {w : World} {base : Nat} {l : List UInt8} {v : Value} (h : w.ownsRow base 5 1 v l.length (Lib.byteCells l)) : ∃ ao c, v = .slice ao l.length c ∧ Bytes w ao c l := by
  have hb := own_block h
  rcases h.2 with ⟨rfl, h0⟩ | ⟨g, cap, cur, rfl, _, h2, h3, h4, _⟩
  · refine ⟨none, 0, by rw [h0], by omega, by omega, fun hl => absurd (List.eq_nil_of_length_eq_zero h0) hl⟩
  · have hm : maxLen ≤ 9223372036854775807 := by unfold maxLen; omega
    refine ⟨some ⟨g, 0, none⟩, cap, rfl, h3, by omega, fun _ => ⟨g, 0, cur, _, rfl, h2, fun j hj => ?_⟩⟩
    have := h.cells (g := g) rfl j (.int .u8 (l[j]).toNat) (by simp [Lib.byteCells, hj])
    rw [Addr.add_lit] at this
    exact this

theorem tok_over (F : Interp) (a : Addr) (ao : Option Addr) (c n : Nat) (hn : n ≤ 256) (w : World) (hE : Env F a w) (t : Pl.Tok) (hf : t.fine n) (hB : Bytes w ao c (Pl.encTok t)) (h : n < t.votes ∨ n < t.census) :
    Calls Ybaf.prog 9 #[.slice ao (Pl.encTok t).length c, .int .i64 n] w fun e w' => ErrPost a w e w' := by
  refine (tok_some F a ao c n (Pl.encTok t) hn w hE hB t (Pl.dec_whole n t hf)).mono ?_
  intro e w' hp
  rw [if_pos h] at hp
  exact hp
theorem tok_good (F : Interp) (a : Addr) (ao : Option Addr) (c n : Nat) (hn : n ≤ 256) (w : World) (hE : Env F a w) (t : Pl.Tok) (hf : t.fine n) (hB : Bytes w ao c (Pl.encTok t)) (h1 : t.votes ≤ n) (h2 : t.census ≤ n) :
    Calls Ybaf.prog 9 #[.slice ao (Pl.encTok t).length c, .int .i64 n] w fun e w' => OkPost w t e w' := by
  refine (tok_some F a ao c n (Pl.encTok t) hn w hE hB t (Pl.dec_whole n t hf)).mono ?_
  intro e w' hp
  rw [if_neg (by omega)] at hp
  exact hp

theorem box8 {W : World} {xb : Nat} {t : In} {po dao aao : Option Addr} {pc dc ac : Nat} (h : W.heap[xb]? = some (.cells (t.cells po dao aao pc dc ac) 26 (0, 0))) :
    W.cell? ⟨xb, 0, none⟩ = some (.int .u8 t.N) ∧ W.cell? ⟨xb, 1, none⟩ = some (.int .i64 t.round) ∧ W.cell? ⟨xb, 2, none⟩ = some (.int .u64 t.votes) ∧ W.cell? ⟨xb, 3, none⟩ = some (.int .u64 t.census) ∧
    W.cell? ⟨xb, 4, none⟩ = some (.slice po t.P.length pc) ∧ W.cell? ⟨xb, 5, none⟩ = some (.int .u64 t.start) ∧ W.cell? ⟨xb, 6, none⟩ = some (.slice dao t.D.length dc) ∧ W.cell? ⟨xb, 7, none⟩ = some (.slice aao t.A.length ac) ∧ xb < W.heap.size :=
  ⟨by rw [cell_heap h]; rfl, by rw [cell_heap h]; rfl, by rw [cell_heap h]; rfl, by rw [cell_heap h]; rfl, by rw [cell_heap h]; rfl, by rw [cell_heap h]; rfl, by rw [cell_heap h]; rfl, by rw [cell_heap h]; rfl, lt_heap h⟩
theorem heap_gb {w w' : World} {b : Nat} {o : Obj} (hg : w.grownBy w' none) (h : w.heap[b]? = some o) : w'.heap[b]? = some o := by
  rw [hg.block b (lt_heap h) (by simp)]
  exact h
theorem RawAt.grown {w w' : World} {ao : Option Addr} {L : List Raw} (h : RawAt w.heap.size w ao L) (hg : w.grownBy w' none) : RawAt w'.heap.size w' ao L := by
  intro hl
  obtain ⟨g, o, rfl, hgl, hc⟩ := h hl
  refine ⟨g, o, rfl, Nat.lt_of_lt_of_le hgl hg.size, fun i hi => ?_⟩
  obtain ⟨h1, h2, h3, h4⟩ := hc i hi
  exact ⟨hg.cell h1 (by simp), hg.cell h2 (by simp), hg.cell h3 (by simp), hg.cell h4 (by simp)⟩
theorem U64At.grown {w w' : World} {ao : Option Addr} {A : List Nat} (h : U64At w.heap.size w ao A) (hg : w.grownBy w' none) : U64At w'.heap.size w' ao A := by
  intro hl
  obtain ⟨g, o, rfl, hgl, hc⟩ := h hl
  exact ⟨g, o, rfl, Nat.lt_of_lt_of_le hgl hg.size, fun i hi => hg.cell (hc i hi) (by simp)⟩
theorem Env.grown {F : Interp} {a : Addr} {w w' : World} (hE : Env F a w) (hg : w.grownBy w' none) : Env F a w' := hE.kept hg (by simp) (by simp)

/-- What a law asks of the ground it is called on. -/
structure Ground (F : Interp) (a : Addr) (t : In) (po dao aao : Option Addr) (w : World) : Prop where
  env : Env F a w
  P : RawAt w.heap.size w po t.P
  D : RawAt w.heap.size w dao t.D
  A : U64At w.heap.size w aao t.A
theorem Ground.grown {F : Interp} {a : Addr} {t : In} {po dao aao : Option Addr} {w w' : World} (h : Ground F a t po dao aao w) (hg : w.grownBy w' none) : Ground F a t po dao aao w' :=
  ⟨h.env.grown hg, h.P.grown hg, h.D.grown hg, h.A.grown hg⟩

theorem body_g (F : Interp) (a : Addr) (t : In) (po dao aao : Option Addr) (pc dc ac : Nat) (xv xc : Int) (votes census : Nat) (ev : xv = votes) (ec : xc = census) (hv : votes < 18446744073709551616) (hc : census < 18446744073709551616) (w : World) (hG : Ground F a t po dao aao w) (hs : t.small) :
    Calls Ybaf.prog 8 #[.agg (t.cells po dao aao pc dc ac), .int .u64 xv, .int .u64 xc] w fun e w' => ∃ ao c vp vd va, e = .returned (.tuple #[.slice ao (Pl.encTok (t.tok votes census)).length c, .int .i64 ((t.N : Int) + 1), vp, vd, .int .u64 ((t.start % 4611686018427387904 : Nat) : Int), va]) ∧
      w'.ownsRow w.heap.size 5 1 (.slice ao (Pl.encTok (t.tok votes census)).length c) (Pl.encTok (t.tok votes census)).length (Lib.byteCells (Pl.encTok (t.tok votes census))) ∧ Bytes w' ao c (Pl.encTok (t.tok votes census)) ∧ w'.ownsRow w.heap.size 95 4 vp (Pl.total (t.tok votes census).prop) (msgCells (t.tok votes census).prop) ∧
      w'.ownsRow w.heap.size 95 4 vd (Pl.total (t.tok votes census).deliv) (msgCells (t.tok votes census).deliv) ∧ w'.ownsRow w.heap.size 22 1 va (t.tok votes census).acks.length ((t.tok votes census).acks.map fun x : Nat => Value.int .u64 x) ∧ w.grownBy w' none := by
  subst ev ec
  refine (body_c t po dao aao pc dc ac votes census hv hc w hG.P hG.D hG.A hs.1 hs.2.1 hs.2.2).mono ?_
  rintro e w' ⟨vb, vp, vd, va, rfl, h1, h2, h3, h4, h5⟩
  obtain ⟨ao, c, rfl, hB⟩ := bytes_own h1
  exact ⟨ao, c, vp, vd, va, rfl, h1, hB, h2, h3, h4, below_gb h5 none⟩
end Go.Proofs.YbulkcrjaFmt
