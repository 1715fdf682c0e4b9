/-
  Seat b4654aF: the encoder's 'zzs4654bbody', as a contract; 'zzs4654bsmall'.
-/
import Derived.Test.YbulkcrjaFmtRuns
namespace Go.Proofs.YbulkcrjaFmt
open Go.RowKit

/-- Numbers of 64 bits lie at ao, below B. -/
def U64At (B : Nat) (w : World) (ao : Option Addr) (A : List Nat) : Prop :=
  A ≠ [] → ∃ g o, ao = some ⟨g, o, none⟩ ∧ g < B ∧ ∀ i (hi : i < A.length), w.cell? ⟨g, o + i, none⟩ = some (.int .u64 (A[i] : Nat))
theorem U64At.kept {B : Nat} {w w' : World} {ao : Option Addr} {A : List Nat} (h : U64At B w ao A) (hk : Below B w w') : U64At B w' ao A := by
  intro hl
  obtain ⟨g, o, rfl, hg, hc⟩ := h hl
  exact ⟨g, o, rfl, hg, fun i hi => by rw [hk.cell (p := ⟨g, o + i, none⟩) hg]; exact hc i hi⟩

/-- The law's token, as it comes in. -/
structure In where
  N : Nat
  round : Int
  votes : Nat
  census : Nat
  start : Nat
  P : List Raw
  D : List Raw
  A : List Nat
  N8 : N < 256
  r0 : -9223372036854775808 ≤ round
  r1 : round ≤ 9223372036854775807
  v64 : votes < 18446744073709551616
  c64 : census < 18446744073709551616
  s64 : start < 18446744073709551616
  A64 : ∀ x ∈ A, x < 18446744073709551616

/-- Its cells, its three slices at po, dao, aao. -/
def In.cells (t : In) (po dao aao : Option Addr) (pc dc ac : Nat) : Array Value :=
  #[.int .u8 t.N, .int .i64 t.round, .int .u64 t.votes, .int .u64 t.census, .slice po t.P.length pc, .int .u64 t.start, .slice dao t.D.length dc, .slice aao t.A.length ac]

/-- What the encoder writes of it, under these votes and this census. -/
def In.tok (t : In) (votes census : Nat) : Pl.Tok :=
  ⟨t.round, votes, t.P.map (Raw.enc (t.N + 1)), t.start % 4611686018427387904, t.D.map (Raw.enc (t.N + 1)), t.A.take (t.N + 1), census⟩

theorem encNums_snoc (xs : List Nat) (x : Nat) : Pl.encNums (xs ++ [x]) = Pl.encNums xs ++ Lib.uvarint x := by
  induction xs with
  | nil => simp [Pl.encNums]
  | cons y xs ih => simp only [List.cons_append, Pl.encNums, ih]; simp

theorem encRuns_le (n : Nat) (hn : n ≤ 256) (hn0 : 0 < n) : ∀ L : List Raw, (Pl.encRuns (L.map (Raw.enc n))).length ≤ 40 * L.length
  | [] => by simp [Pl.encRuns]
  | r :: L => by
    have h1 := encRun_le n r hn hn0
    have h2 := encRuns_le n hn hn0 L
    simp only [List.map_cons, Pl.encRuns, List.length_append, List.length_cons, List.length_nil]
    omega
theorem encIdent_le (n : Nat) (hn : n ≤ 256) (hn0 : 0 < n) (L : List Raw) (hL : L.length ≤ 256) : (Pl.encIdent (L.map (Raw.enc n))).length ≤ 10250 := by
  have h1 := encRuns_le n hn hn0 L
  have h2 := Lib.uvarint_length64 (x := (L.map (Raw.enc n)).length) (by simp; omega)
  simp only [Pl.encIdent, List.length_append, List.length_nil]
  omega

theorem runs_b (B m n : Nat) (hn : n ≤ 256) (hn0 : 0 < n) (sv : Value) (pre : List UInt8) (hm : pre.length = m) (ao : Option Addr) (c : Nat) (L : List Raw) (hL : L.length ≤ 256) (w : World) (hown : w.ownsRow B 5 1 sv pre.length (Lib.byteCells pre)) (hBw : B ≤ w.heap.size) (hlim : m ≤ 1099511627776) (hR : RawAt B w ao L) :
    Calls Ybaf.prog 15 #[sv, .slice ao L.length c, .int .i64 n] w fun e w' => ∃ vb vms, e = .returned (.tuple #[vb, vms]) ∧
      w'.ownsRow B 5 1 vb (pre ++ Pl.encIdent (L.map (Raw.enc n))).length (Lib.byteCells (pre ++ Pl.encIdent (L.map (Raw.enc n)))) ∧ w'.ownsRow w.heap.size 95 4 vms (Pl.total (L.map (Raw.enc n))) (msgCells (L.map (Raw.enc n))) ∧ Kp B w w' := by
  refine (runs_c B pre.length n hn hn0 sv (Lib.byteCells pre) ao c L hL w hown hBw (by omega) hR).mono ?_
  rintro e w' ⟨vb, vms, rfl, h1, h2, h3⟩
  refine ⟨vb, vms, rfl, ?_, h2, h3⟩
  rw [List.length_append, Lib.byteCells_append]
  exact h1
theorem au_p (B x : Nat) (hx : x < 18446744073709551616) (sv : Value) (pre : List UInt8) (w : World) (hown : w.ownsRow B 5 1 sv pre.length (Lib.byteCells pre)) (hBw : B ≤ w.heap.size) (hlim : pre.length + 10 ≤ 140737488355328) :
    Calls Ybaf.prog 14 #[sv, .int .u64 x] w fun e w' => ∃ v', e = .returned v' ∧ w'.ownsRow B 5 1 v' (pre ++ Lib.uvarint x).length (Lib.byteCells (pre ++ Lib.uvarint x)) ∧ Kp B w w' := by
  refine (au_c B pre.length x hx sv _ w hown hBw hlim).mono ?_
  rintro e w' ⟨v', rfl, h1, h2⟩
  refine ⟨v', rfl, ?_, h2⟩
  rw [List.length_append, Lib.byteCells_append]
  exact h1

theorem box26 {W : World} {xb : Nat} {t : In} {po dao aao : Option Addr} {pc dc ac : Nat} (h : W.heap[xb]? = some (.cells (t.cells po dao aao pc dc ac) 26 (0, 0))) :
    W.cell? ⟨xb, 4, none⟩ = some (.slice po t.P.length pc) ∧ W.cell? ⟨xb, 5, none⟩ = some (.int .u64 t.start) ∧ W.cell? ⟨xb, 6, none⟩ = some (.slice dao t.D.length dc) ∧ W.cell? ⟨xb, 7, none⟩ = some (.slice aao t.A.length ac) ∧ xb < W.heap.size :=
  ⟨by rw [cell_heap h]; rfl, by rw [cell_heap h]; rfl, by rw [cell_heap h]; rfl, by rw [cell_heap h]; rfl, lt_heap h⟩

set_option maxHeartbeats 4000000 in
set_option maxRecDepth 100000 in
theorem body_c (t : In) (po dao aao : Option Addr) (pc dc ac : Nat) (votes census : Nat) (hv : votes < 18446744073709551616) (hc : census < 18446744073709551616) (w : World) (hP : RawAt w.heap.size w po t.P) (hD : RawAt w.heap.size w dao t.D) (hA : U64At w.heap.size w aao t.A)
    (lP : t.P.length ≤ 256) (lD : t.D.length ≤ 256) (lA : t.A.length ≤ 1024) :
    Calls Ybaf.prog 8 #[.agg (t.cells po dao aao pc dc ac), .int .u64 votes, .int .u64 census] w fun e w' => ∃ vb vp vd va, e = .returned (.tuple #[vb, .int .i64 ((t.N + 1 : Nat) : Int), vp, vd, .int .u64 ((t.start % 4611686018427387904 : Nat) : Int), va]) ∧
      w'.ownsRow w.heap.size 5 1 vb (Pl.encTok (t.tok votes census)).length (Lib.byteCells (Pl.encTok (t.tok votes census))) ∧ w'.ownsRow w.heap.size 95 4 vp (Pl.total (t.tok votes census).prop) (msgCells (t.tok votes census).prop) ∧
      w'.ownsRow w.heap.size 95 4 vd (Pl.total (t.tok votes census).deliv) (msgCells (t.tok votes census).deliv) ∧ w'.ownsRow w.heap.size 22 1 va (t.tok votes census).acks.length ((t.tok votes census).acks.map fun x : Nat => Value.int .u64 x) ∧ Below w.heap.size w w' := by
  obtain ⟨i22, hi, hz0, hz1, hz2⟩ := info_parts info22
  have hN := t.N8
  have hr0 := t.r0
  have hr1 := t.r1
  have hst := t.s64
  have HP := hide hP
  have HD := hide hD
  have HA := hide hA
  clear hP hD hA
  have hbx : Hid ((w.alloc (.cells (t.cells po dao aao pc dc ac) 26)).heap[w.heap.size]? = some (.cells (t.cells po dao aao pc dc ac) 26 (0, 0))) := heap_alloc_new w _
  simp only [In.cells]
  go_enter Ybaf.func8, Ybaf.ntmps8
  go_wp2_with fail
  refine (av_c w.heap.size 0 t.round hr0 hr1 (.slice none 0 0) [] _ (World.ownsRow_nil _ _ _ _) (by simp) (by omega)).mono ?_
  rintro e w1 ⟨vb1, rfl, hb1, hk1⟩
  simp only [List.nil_append, Nat.zero_add] at hb1
  have hK1 : Kp w.heap.size w w1 := ((Kp.refl _ _).grown (World.grownBy_alloc w _ none)).trans hk1
  have hX1 : Hid (w1.heap[w.heap.size]? = some (.cells (t.cells po dao aao pc dc ac) 26 (0, 0))) := hk1.heap hbx (by decide)
  have lz := Lib.uvarint_length64 (Lib.zigzag_lt hr0 hr1)
  have lv := Lib.uvarint_length64 hv
  have lc := Lib.uvarint_length64 hc
  have lI := encIdent_le (t.N + 1) (by omega) (by omega) t.P lP
  have lJ := encIdent_le (t.N + 1) (by omega) (by omega) t.D lD
  have ls := Lib.uvarint_length64 (x := t.start % 4611686018427387904) (by omega)
  clear hk1 hbx
  have hs1 := hK1.size
  go_wp2_with fail
  refine (au_p w.heap.size votes hv vb1 _ _ hb1 hs1 (by omega)).mono ?_
  rintro e w2 ⟨vb2, rfl, hb2, hk2⟩
  have hK2 := hK1.trans hk2
  have hX2 := hide (hk2.heap (unhide hX1) (by decide))
  clear hb1 hk2 hK1 hX1 hs1
  have hs2 := hK2.size
  obtain ⟨p4, p5, p6, p7, lx⟩ := box26 (unhide hX2)
  go_wp2_with fail
  refine (runs_b w.heap.size _ (t.N + 1) (by omega) (by omega) vb2 _ rfl po pc t.P lP _ hb2 hs2 (by simp only [List.length_append]; omega) ((unhide HP).kept hK2)).mono ?_
  rintro e w3 ⟨vb3, vp3, rfl, hb3, hp3, hk3⟩
  have hK3 := hK2.trans hk3
  have hX3 := hide (hk3.heap (unhide hX2) (by decide))
  have hp3 := own_base hp3 hs2
  clear hb2 hk3 hK2 hX2 hs2 p4 p5 p6 p7 lx
  have hs3 := hK3.size
  obtain ⟨p4, p5, p6, p7, lx⟩ := box26 (unhide hX3)
  obtain ⟨st, hstq, hstn⟩ : ∃ st : Nat, (t.start : Int) % 4611686018427387904 = (st : Int) ∧ t.start % 4611686018427387904 = st := ⟨t.start % 4611686018427387904, by simp, rfl⟩
  have HST := hide hstn
  rw [hstn] at ls
  clear hstn
  go_wp2_with fail
  refine (au_p w.heap.size st (by have := unhide HST; omega) vb3 _ _ hb3 hs3 (by simp only [List.length_append]; omega)).mono ?_
  rintro e w4 ⟨vb4, rfl, hb4, hk4⟩
  have hK4 := hK3.trans hk4
  have hX4 := hide (hk4.heap (unhide hX3) (by decide))
  have hp4 := hk4.own hp3 (by decide)
  clear hb3 hk4 hK3 hX3 hs3 hp3 p4 p5 p6 p7 lx
  have hs4 := hK4.size
  obtain ⟨p4, p5, p6, p7, lx⟩ := box26 (unhide hX4)
  go_wp2_with fail
  refine (runs_b w.heap.size _ (t.N + 1) (by omega) (by omega) vb4 _ rfl dao dc t.D lD _ hb4 hs4 (by simp only [List.length_append]; omega) ((unhide HD).kept hK4)).mono ?_
  rintro e w5 ⟨vb5, vd5, rfl, hb5, hd5, hk5⟩
  have hK5 := hK4.trans hk5
  have hX5 := hide (hk5.heap (unhide hX4) (by decide))
  have hp5 := hk5.own hp4 (by decide)
  have hd5 := own_base hd5 hs4
  clear hb4 hk5 hK4 hX4 hs4 hp4 p4 p5 p6 p7 lx
  have hs5 := hK5.size
  obtain ⟨p4, p5, p6, p7, lx⟩ := box26 (unhide hX5)
  by_cases hkn : t.N + 1 < t.A.length
  · have hkn' : (t.N : Int) + 1 < (t.A.length : Int) := by omega
    have hKA : t.N + 1 ≤ t.A.length := by omega
    have hKN : t.N + 1 ≤ t.N + 1 := by omega
    have htk : t.A.take (t.N + 1) = t.A.take (t.N + 1) ∧ (t.A.take (t.N + 1)).length = t.N + 1 := by
      refine ⟨?_, by rw [List.length_take]; omega⟩
      first
        | rfl
        | rw [List.take_of_length_le (by omega), List.take_of_length_le (by omega)]
    have HTK := hide htk
    have lk := Lib.uvarint_length64 (x := t.N + 1) (by omega)
    clear htk
    go_wp2_with fail
    refine (au_p w.heap.size (t.N + 1) (by omega) vb5 _ _ hb5 hs5 (by simp only [List.length_append]; omega)).mono ?_
    rintro e w6 ⟨vb6, rfl, hb6, hk6⟩
    have hK6 := hK5.trans hk6
    have hX6 := hide (hk6.heap (unhide hX5) (by decide))
    have hp6 := hk6.own hp5 (by decide)
    have hd6 := hk6.own hd5 (by decide)
    clear hb5 hk6 hK5 hX5 hs5 hp5 hd5 p4 p5 p6 p7 lx
    have hs6 := hK6.size
    generalize hpre : (((((Lib.uvarint (Lib.zigzag t.round) ++ Lib.uvarint votes) ++ Pl.encIdent (t.P.map (Raw.enc (t.N + 1)))) ++ Lib.uvarint st) ++ Pl.encIdent (t.D.map (Raw.enc (t.N + 1)))) ++ Lib.uvarint (t.N + 1)) = pre at *
    have hprel : pre.length ≤ 30000 := by rw [← hpre]; simp only [List.length_append]; omega
    have HPRE := hide hpre
    clear hpre
    go_wp2_with (at_make; refine wpList_make_own _ rfl _ _ 24 rfl w.heap.size 22 i22 (.int .u64 0) 1 Ybaf.underlying24 hi hz0 hz1 _ _ _ (t.N + 1) rfl rfl (by go_num) ?b2 ?b3 ?b4 ?_)
    case b2 => rw [hz2]; omega
    case b3 => unfold maxLen; omega
    case b4 => exact hs6
    intro w7 hown7 hgr7
    have hK7 := hK6.grown hgr7
    have hX7 : Hid (w7.heap[w.heap.size]? = some (.cells (t.cells po dao aao pc dc ac) 26 (0, 0))) := by
      show w7.heap[w.heap.size]? = _
      rw [hgr7.block _ (lt_heap (unhide hX6)) (by simp)]
      exact unhide hX6
    have hb7 := hb6.kept hgr7 (by cases hv : vb6.ownBlock <;> simp)
    have hp7 := hp6.kept hgr7 (by cases hv : vp3.ownBlock <;> simp)
    have hd7 := hd6.kept hgr7 (by cases hv : vd5.ownBlock <;> simp)
    generalize w6.heap.size = g at *
    clear hb6 hp6 hd6 hX6 hK6 hgr7
    go_wp2
    go_loopw [13, 18, 19] (fun vb va vi wr => ∃ i : Nat, i ≤ t.N + 1 ∧ vi = .int .i64 i ∧ va = .slice (some ⟨g, 0, none⟩) i (t.N + 1) ∧ wr.ownsRow w.heap.size 22 1 (.slice (some ⟨g, 0, none⟩) i (t.N + 1)) i ((t.A.take i).map fun x : Nat => Value.int .u64 x) ∧
        wr.ownsRow w.heap.size 5 1 vb (pre ++ Pl.encNums (t.A.take i)).length (Lib.byteCells (pre ++ Pl.encNums (t.A.take i))) ∧ (pre ++ Pl.encNums (t.A.take i)).length ≤ 30000 + 10 * i ∧
        wr.ownsRow w.heap.size 95 4 vp3 (Pl.total (t.P.map (Raw.enc (t.N + 1)))) (msgCells (t.P.map (Raw.enc (t.N + 1)))) ∧ wr.ownsRow w.heap.size 95 4 vd5 (Pl.total (t.D.map (Raw.enc (t.N + 1)))) (msgCells (t.D.map (Raw.enc (t.N + 1)))) ∧
        Hid (wr.heap[w.heap.size]? = some (.cells (t.cells po dao aao pc dc ac) 26 (0, 0))) ∧ Kp w.heap.size w wr)
      (fun _ _ vi _ => t.N + 1 - (intOf vi).toNat)
    case atStart => exact ⟨0, Nat.zero_le _, rfl, rfl, hown7, by simpa [Pl.encNums] using hb7, by simpa [Pl.encNums] using hprel, hp7, hd7, hX7, hK7⟩
    case round =>
      obtain ⟨i, hiK, rfl, rfl, hai, hbi, hbl, hpi, hdi, hXi, hKi⟩ := hrel
      clear hown7 hb7 hp7 hd7 hX7 hK7
      have hsi := hKi.size
      by_cases hlt : i < t.N + 1
      · have hii : (i : Int) < ((t.N : Int) + 1) := by omega
        have hiA : (i : Int) < (t.A.length : Int) := by omega
        obtain ⟨ag, ap, rfl, hagB, hac⟩ := ((unhide HA).kept (hKi.below (Nat.le_refl _))) (by intro e; have := congrArg List.length e; simp only [List.length_nil] at this; omega)
        obtain ⟨x, hx⟩ : ∃ x, t.A[i]'(by omega) = x := ⟨_, rfl⟩
        have hac1 := hac i (by omega)
        rw [hx] at hac1
        have hxl : x < 18446744073709551616 := by rw [← hx]; exact t.A64 _ (List.getElem_mem _)
        have hsn : t.A.take (i + 1) = t.A.take i ++ [x] := by rw [take_snoc t.A i (by omega), hx]
        have HSN := hide hsn
        have lu := Lib.uvarint_length64 hxl
        clear hac hx hsn
        obtain ⟨p4, p5, p6, p7, lx⟩ := box26 (unhide hXi)
        have hagl := lt_cell hac1
        simp only at hagl
        go_wp2_with fail
        refine (au_p w.heap.size x hxl _ _ _ hbi hsi (by omega)).mono ?_
        rintro e w8 ⟨vb8, rfl, hb8, hk8⟩
        have hK8 := hKi.trans hk8
        have hX8 := hide (hk8.heap (unhide hXi) (by decide))
        have hp8 := hk8.own hpi (by decide)
        have hd8 := hk8.own hdi (by decide)
        have ha8 := hk8.own hai (by decide)
        have hac8 := hk8.cell hac1 hagB
        clear hai hbi hpi hdi hXi hKi hk8 hac1 p4 p5 p6 p7 lx hagl
        obtain ⟨p4, p5, p6, p7, lx⟩ := box26 (unhide hX8)
        have hagl := lt_cell hac8
        simp only at hagl
        have hs8 := hK8.size
        have hga := World.grownBy_alloc w8 (.cells #[.int .u64 x] 22) none
        have haa := ha8.alloc (.cells #[.int .u64 x] 22)
        go_wp2_with (at_builtin; refine wpList_append_fits _ rfl _ _ 24 rfl w.heap.size 22 i22 1 Ybaf.underlying24 hi hz1 g i (t.N + 1) _ rfl haa ⟨w8.heap.size, 0, none⟩ 1 1 [.int .u64 x] rfl rfl ?c1 ?c2 ?c3 ?_)
        case c1 =>
          intro j u hj
          match j, hj with
          | 0, hj => simp at hj; subst hj; simp [Addr.add]
        case c2 => intro u hu; simp at hu; subst hu; rfl
        case c3 => omega
        intro w9 ha9 hgr9
        obtain ⟨gcur, hgcur⟩ := own_block haa g rfl
        have hX9 : Hid (w9.heap[w.heap.size]? = some (.cells (t.cells po dao (some ⟨ag, ap, none⟩) pc dc ac) 26 (0, 0))) := by
          have hxa := hga.block w.heap.size lx (by simp)
          rw [unhide hX8] at hxa
          show w9.heap[w.heap.size]? = _
          rw [hgr9.block _ (lt_heap hxa) (fun e => own_ne haa hxa (by decide) e.symm)]
          exact hxa
        have hp9 := (hp8.alloc _).kept hgr9 (.inr (own_ne (hp8.alloc _) hgcur (by decide)))
        have hd9 := (hd8.alloc _).kept hgr9 (.inr (own_ne (hd8.alloc _) hgcur (by decide)))
        have hb9 := (hb8.alloc _).kept hgr9 (.inr (own_ne (hb8.alloc _) hgcur (by decide)))
        have hK9 := (hK8.grown hga).fresh hgr9 (fun k e => (haa.lt k (by cases e; rfl)).1)
        clear hb8 hp8 hd8 ha8 hX8 hK8
        go_wp2
        refine ⟨⟨i + 1, by omega, by go_num, rfl, ?_, ?_, ?_, hp9, hd9, hX9, hK9⟩, by simp [intOf]; omega⟩
        · rw [unhide HSN, List.map_append, List.map_take]; exact ha9
        · rw [unhide HSN, encNums_snoc, ← List.append_assoc]; exact hb9
        · rw [unhide HSN, encNums_snoc, ← List.append_assoc, List.length_append]; omega
      · obtain rfl : i = t.N + 1 := by omega
        have hii : ¬ ((t.N : Int) + 1) < ((t.N : Int) + 1) := by omega
        go_wp2_with fail
        refine (au_p w.heap.size census hc _ _ _ hbi hsi (by omega)).mono ?_
        rintro e w8 ⟨vb8, rfl, hb8, hk8⟩
        have hK8 := hKi.trans hk8
        have hp8 := hk8.own hpi (by decide)
        have hd8 := hk8.own hdi (by decide)
        have ha8 := hk8.own hai (by decide)
        have HB8 := hide hb8
        clear hai hbi hpi hdi hXi hKi hk8 hb8
        go_wp2
        refine bodyPost_ret (v := .tuple #[vb8, .int .i64 ((t.N : Int) + 1), vp3, vd5, .int .u64 st, .slice (some ⟨g, 0, none⟩) (t.N + 1) (t.N + 1)]) (by simp [results, Ybaf.results8, go_sem]) rfl ?_
        refine ⟨vb8, vp3, vd5, .slice (some ⟨g, 0, none⟩) (t.N + 1) (t.N + 1), ?_, ?_, hp8, hd8, ?_, hK8.below (Nat.le_refl _)⟩
        · rw [unhide HST]
          rfl
        · have e1 : Pl.encTok (t.tok votes census) = pre ++ Pl.encNums (t.A.take (t.N + 1)) ++ Lib.uvarint census := by
            rw [← unhide HPRE]
            simp only [Pl.encTok, In.tok, Pl.encNumbers, (unhide HTK).2, unhide HST]
            simp only [List.append_assoc, List.nil_append, List.append_nil]
          rw [e1]
          exact unhide HB8
        · show w8.ownsRow w.heap.size 22 1 _ (t.A.take (t.N + 1)).length ((t.A.take (t.N + 1)).map _)
          rw [(unhide HTK).2]
          exact ha8
  · have hkn' : ¬ (t.N : Int) + 1 < (t.A.length : Int) := by omega
    have hKA : t.A.length ≤ t.A.length := by omega
    have hKN : t.A.length ≤ t.N + 1 := by omega
    have htk : t.A.take (t.N + 1) = t.A.take (t.A.length) ∧ (t.A.take (t.A.length)).length = t.A.length := by
      refine ⟨?_, by rw [List.length_take]; omega⟩
      first
        | rfl
        | rw [List.take_of_length_le (by omega), List.take_of_length_le (by omega)]
    have HTK := hide htk
    have lk := Lib.uvarint_length64 (x := t.A.length) (by omega)
    clear htk
    go_wp2_with fail
    refine (au_p w.heap.size (t.A.length) (by omega) vb5 _ _ hb5 hs5 (by simp only [List.length_append]; omega)).mono ?_
    rintro e w6 ⟨vb6, rfl, hb6, hk6⟩
    have hK6 := hK5.trans hk6
    have hX6 := hide (hk6.heap (unhide hX5) (by decide))
    have hp6 := hk6.own hp5 (by decide)
    have hd6 := hk6.own hd5 (by decide)
    clear hb5 hk6 hK5 hX5 hs5 hp5 hd5 p4 p5 p6 p7 lx
    have hs6 := hK6.size
    generalize hpre : (((((Lib.uvarint (Lib.zigzag t.round) ++ Lib.uvarint votes) ++ Pl.encIdent (t.P.map (Raw.enc (t.N + 1)))) ++ Lib.uvarint st) ++ Pl.encIdent (t.D.map (Raw.enc (t.N + 1)))) ++ Lib.uvarint (t.A.length)) = pre at *
    have hprel : pre.length ≤ 30000 := by rw [← hpre]; simp only [List.length_append]; omega
    have HPRE := hide hpre
    clear hpre
    go_wp2_with (at_make; refine wpList_make_own _ rfl _ _ 24 rfl w.heap.size 22 i22 (.int .u64 0) 1 Ybaf.underlying24 hi hz0 hz1 _ _ _ (t.A.length) rfl rfl (by go_num) ?b2 ?b3 ?b4 ?_)
    case b2 => rw [hz2]; omega
    case b3 => unfold maxLen; omega
    case b4 => exact hs6
    intro w7 hown7 hgr7
    have hK7 := hK6.grown hgr7
    have hX7 : Hid (w7.heap[w.heap.size]? = some (.cells (t.cells po dao aao pc dc ac) 26 (0, 0))) := by
      show w7.heap[w.heap.size]? = _
      rw [hgr7.block _ (lt_heap (unhide hX6)) (by simp)]
      exact unhide hX6
    have hb7 := hb6.kept hgr7 (by cases hv : vb6.ownBlock <;> simp)
    have hp7 := hp6.kept hgr7 (by cases hv : vp3.ownBlock <;> simp)
    have hd7 := hd6.kept hgr7 (by cases hv : vd5.ownBlock <;> simp)
    generalize w6.heap.size = g at *
    clear hb6 hp6 hd6 hX6 hK6 hgr7
    go_wp2
    go_loopw [13, 18, 19] (fun vb va vi wr => ∃ i : Nat, i ≤ t.A.length ∧ vi = .int .i64 i ∧ va = .slice (some ⟨g, 0, none⟩) i (t.A.length) ∧ wr.ownsRow w.heap.size 22 1 (.slice (some ⟨g, 0, none⟩) i (t.A.length)) i ((t.A.take i).map fun x : Nat => Value.int .u64 x) ∧
        wr.ownsRow w.heap.size 5 1 vb (pre ++ Pl.encNums (t.A.take i)).length (Lib.byteCells (pre ++ Pl.encNums (t.A.take i))) ∧ (pre ++ Pl.encNums (t.A.take i)).length ≤ 30000 + 10 * i ∧
        wr.ownsRow w.heap.size 95 4 vp3 (Pl.total (t.P.map (Raw.enc (t.N + 1)))) (msgCells (t.P.map (Raw.enc (t.N + 1)))) ∧ wr.ownsRow w.heap.size 95 4 vd5 (Pl.total (t.D.map (Raw.enc (t.N + 1)))) (msgCells (t.D.map (Raw.enc (t.N + 1)))) ∧
        Hid (wr.heap[w.heap.size]? = some (.cells (t.cells po dao aao pc dc ac) 26 (0, 0))) ∧ Kp w.heap.size w wr)
      (fun _ _ vi _ => t.A.length - (intOf vi).toNat)
    case atStart => exact ⟨0, Nat.zero_le _, rfl, rfl, hown7, by simpa [Pl.encNums] using hb7, by simpa [Pl.encNums] using hprel, hp7, hd7, hX7, hK7⟩
    case round =>
      obtain ⟨i, hiK, rfl, rfl, hai, hbi, hbl, hpi, hdi, hXi, hKi⟩ := hrel
      clear hown7 hb7 hp7 hd7 hX7 hK7
      have hsi := hKi.size
      by_cases hlt : i < t.A.length
      · have hii : (i : Int) < (t.A.length : Int) := by omega
        have hiA : (i : Int) < (t.A.length : Int) := by omega
        obtain ⟨ag, ap, rfl, hagB, hac⟩ := ((unhide HA).kept (hKi.below (Nat.le_refl _))) (by intro e; have := congrArg List.length e; simp only [List.length_nil] at this; omega)
        obtain ⟨x, hx⟩ : ∃ x, t.A[i]'(by omega) = x := ⟨_, rfl⟩
        have hac1 := hac i (by omega)
        rw [hx] at hac1
        have hxl : x < 18446744073709551616 := by rw [← hx]; exact t.A64 _ (List.getElem_mem _)
        have hsn : t.A.take (i + 1) = t.A.take i ++ [x] := by rw [take_snoc t.A i (by omega), hx]
        have HSN := hide hsn
        have lu := Lib.uvarint_length64 hxl
        clear hac hx hsn
        obtain ⟨p4, p5, p6, p7, lx⟩ := box26 (unhide hXi)
        have hagl := lt_cell hac1
        simp only at hagl
        go_wp2_with fail
        refine (au_p w.heap.size x hxl _ _ _ hbi hsi (by omega)).mono ?_
        rintro e w8 ⟨vb8, rfl, hb8, hk8⟩
        have hK8 := hKi.trans hk8
        have hX8 := hide (hk8.heap (unhide hXi) (by decide))
        have hp8 := hk8.own hpi (by decide)
        have hd8 := hk8.own hdi (by decide)
        have ha8 := hk8.own hai (by decide)
        have hac8 := hk8.cell hac1 hagB
        clear hai hbi hpi hdi hXi hKi hk8 hac1 p4 p5 p6 p7 lx hagl
        obtain ⟨p4, p5, p6, p7, lx⟩ := box26 (unhide hX8)
        have hagl := lt_cell hac8
        simp only at hagl
        have hs8 := hK8.size
        have hga := World.grownBy_alloc w8 (.cells #[.int .u64 x] 22) none
        have haa := ha8.alloc (.cells #[.int .u64 x] 22)
        go_wp2_with (at_builtin; refine wpList_append_fits _ rfl _ _ 24 rfl w.heap.size 22 i22 1 Ybaf.underlying24 hi hz1 g i (t.A.length) _ rfl haa ⟨w8.heap.size, 0, none⟩ 1 1 [.int .u64 x] rfl rfl ?c1 ?c2 ?c3 ?_)
        case c1 =>
          intro j u hj
          match j, hj with
          | 0, hj => simp at hj; subst hj; simp [Addr.add]
        case c2 => intro u hu; simp at hu; subst hu; rfl
        case c3 => omega
        intro w9 ha9 hgr9
        obtain ⟨gcur, hgcur⟩ := own_block haa g rfl
        have hX9 : Hid (w9.heap[w.heap.size]? = some (.cells (t.cells po dao (some ⟨ag, ap, none⟩) pc dc ac) 26 (0, 0))) := by
          have hxa := hga.block w.heap.size lx (by simp)
          rw [unhide hX8] at hxa
          show w9.heap[w.heap.size]? = _
          rw [hgr9.block _ (lt_heap hxa) (fun e => own_ne haa hxa (by decide) e.symm)]
          exact hxa
        have hp9 := (hp8.alloc _).kept hgr9 (.inr (own_ne (hp8.alloc _) hgcur (by decide)))
        have hd9 := (hd8.alloc _).kept hgr9 (.inr (own_ne (hd8.alloc _) hgcur (by decide)))
        have hb9 := (hb8.alloc _).kept hgr9 (.inr (own_ne (hb8.alloc _) hgcur (by decide)))
        have hK9 := (hK8.grown hga).fresh hgr9 (fun k e => (haa.lt k (by cases e; rfl)).1)
        clear hb8 hp8 hd8 ha8 hX8 hK8
        go_wp2
        refine ⟨⟨i + 1, by omega, by go_num, rfl, ?_, ?_, ?_, hp9, hd9, hX9, hK9⟩, by simp [intOf]; omega⟩
        · rw [unhide HSN, List.map_append, List.map_take]; exact ha9
        · rw [unhide HSN, encNums_snoc, ← List.append_assoc]; exact hb9
        · rw [unhide HSN, encNums_snoc, ← List.append_assoc, List.length_append]; omega
      · obtain rfl : i = t.A.length := by omega
        have hii : ¬ (t.A.length : Int) < (t.A.length : Int) := by omega
        go_wp2_with fail
        refine (au_p w.heap.size census hc _ _ _ hbi hsi (by omega)).mono ?_
        rintro e w8 ⟨vb8, rfl, hb8, hk8⟩
        have hK8 := hKi.trans hk8
        have hp8 := hk8.own hpi (by decide)
        have hd8 := hk8.own hdi (by decide)
        have ha8 := hk8.own hai (by decide)
        have HB8 := hide hb8
        clear hai hbi hpi hdi hXi hKi hk8 hb8
        go_wp2
        refine bodyPost_ret (v := .tuple #[vb8, .int .i64 ((t.N : Int) + 1), vp3, vd5, .int .u64 st, .slice (some ⟨g, 0, none⟩) (t.A.length) (t.A.length)]) (by simp [results, Ybaf.results8, go_sem]) rfl ?_
        refine ⟨vb8, vp3, vd5, .slice (some ⟨g, 0, none⟩) (t.A.length) (t.A.length), ?_, ?_, hp8, hd8, ?_, hK8.below (Nat.le_refl _)⟩
        · rw [unhide HST]
          rfl
        · have e1 : Pl.encTok (t.tok votes census) = pre ++ Pl.encNums (t.A.take (t.A.length)) ++ Lib.uvarint census := by
            rw [← unhide HPRE]
            simp only [Pl.encTok, In.tok, Pl.encNumbers, (unhide HTK).1, (unhide HTK).2, unhide HST]
            simp only [List.append_assoc, List.nil_append, List.append_nil]
          rw [e1]
          exact unhide HB8
        · show w8.ownsRow w.heap.size 22 1 _ (t.A.take (t.N + 1)).length ((t.A.take (t.N + 1)).map _)
          rw [(unhide HTK).1, (unhide HTK).2]
          exact ha8
end Go.Proofs.YbulkcrjaFmt
