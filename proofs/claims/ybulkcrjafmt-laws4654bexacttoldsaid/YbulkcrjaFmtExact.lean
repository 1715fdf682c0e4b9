/-
  Seat b4654aF: the law 'LawS4654BExact', walked.
-/
import Derived.Test.YbulkcrjaFmtSmall
namespace Go.Proofs.YbulkcrjaFmt
open Go.RowKit Go.Extern.Stop Go.Stop Go.Extern

/-- What a row of numbers holds. -/
theorem own_u64 {w : World} {base n : Nat} {v : Value} {A : List Nat} (h : w.ownsRow base 22 1 v n (A.map fun x : Nat => Value.int .u64 x)) (i : Nat) (hi : i < n) :
    ∃ g c, v = .slice (some ⟨g, 0, none⟩) n c ∧ w.cell? ⟨g, i, none⟩ = some (.int .u64 (A[i]'(by have := h.1; simp at this; omega) : Nat)) := by
  have hl : A.length = n := by have := h.1; simp at this; exact this
  rcases h.2 with ⟨_, h0⟩ | ⟨g, cap, cur, rfl, _⟩
  · omega
  · refine ⟨g, cap, rfl, ?_⟩
    have := h.cells (g := g) rfl i (.int .u64 (A[i]'(by omega) : Nat)) (by simp [hl, hi])
    rw [Addr.add_lit, Nat.zero_add] at this
    exact this

theorem heap35 {W : World} {b : Nat} {v0 v1 v2 v3 v4 v5 v6 : Value} (h : W.heap[b]? = some (.cells #[v0, v1, v2, v3, v4, v5, v6] 35 (0, 0))) :
    W.cell? ⟨b, 0, none⟩ = some v0 ∧ W.cell? ⟨b, 1, none⟩ = some v1 ∧ W.cell? ⟨b, 2, none⟩ = some v2 ∧ W.cell? ⟨b, 3, none⟩ = some v3 ∧ W.cell? ⟨b, 4, none⟩ = some v4 ∧ W.cell? ⟨b, 5, none⟩ = some v5 ∧ W.cell? ⟨b, 6, none⟩ = some v6 ∧ b < W.heap.size :=
  ⟨by rw [cell_heap h]; rfl, by rw [cell_heap h]; rfl, by rw [cell_heap h]; rfl, by rw [cell_heap h]; rfl, by rw [cell_heap h]; rfl, by rw [cell_heap h]; rfl, by rw [cell_heap h]; rfl, lt_heap h⟩

set_option maxHeartbeats 4000000 in
set_option maxRecDepth 100000 in
theorem exact_c (F : Interp) (a : Addr) (t : In) (po dao aao : Option Addr) (pc dc ac : Nat) (w : World) (hG : Ground F a t po dao aao w) :
    Calls Ybaf.prog 3 #[.agg (t.cells po dao aao pc dc ac)] w fun e w' => e = .returned (.bool true) ∧ w.grownBy w' none := by
  have hN := t.N8
  have hv := t.v64
  have hc := t.c64
  have hgA := World.grownBy_alloc w (.cells (t.cells po dao aao pc dc ac) 26) none
  have hbx : Hid ((w.alloc (.cells (t.cells po dao aao pc dc ac) 26)).heap[w.heap.size]? = some (.cells (t.cells po dao aao pc dc ac) 26 (0, 0))) := heap_alloc_new w _
  have HG := hide (hG.grown hgA)
  clear hG
  by_cases hs : t.small
  · have HS := hide hs
    clear hs
    simp only [In.cells]
    go_enter Ybaf.func3, Ybaf.ntmps3
    go_wp2_with fail
    refine (small_yes t po dao aao pc dc ac _ (unhide HS)).mono ?_
    rintro e w1 ⟨rfl, hg1⟩
    have HG1 := hide ((unhide HG).grown hg1)
    have hX1 := hide (heap_gb hg1 (unhide hbx))
    have hg01 := gb_none hgA hg1
    clear hg1 hgA hbx HG
    generalize w.heap.size = xb at *
    obtain ⟨p0, p1, p2, p3, p4, p5, p6, p7, lx⟩ := box8 (unhide hX1)
    go_wp2_with fail
    have hm1 := Nat.mod_lt t.votes (show t.N + 1 + 1 > 0 by omega)
    have hm2 := Nat.mod_lt t.census (show t.N + 1 + 1 > 0 by omega)
    refine (body_g F a t po dao aao pc dc ac _ _ (t.votes % (t.N + 1 + 1)) (t.census % (t.N + 1 + 1)) (by simp) (by simp) (by omega) (by omega) _ (unhide HG1) (unhide HS)).mono ?_
    rintro e w2 ⟨ao, c, vp, vd, va, rfl, _, hB, hvp, hvd, hva, hg2⟩
    have HB := hide hB
    have HG2 := hide ((unhide HG1).grown hg2)
    have hX2 := hide (heap_gb hg2 (unhide hX1))
    have hg02 := gb_none hg01 hg2
    clear hB hg2 HG1 hg01 hX1 p0 p1 p2 p3 p4 p5 p6 p7 lx
    have e1 : ((t.votes : Int) % ((t.N : Int) + 1 + 1)) = ((t.votes % (t.N + 1 + 1) : Nat) : Int) := by simp
    have e2 : ((t.census : Int) % ((t.N : Int) + 1 + 1)) = ((t.census % (t.N + 1 + 1) : Nat) : Int) := by simp
    rw [e1, e2]
    clear e1 e2
    generalize hvv : t.votes % (t.N + 1 + 1) = votes at *
    generalize hcc : t.census % (t.N + 1 + 1) = census at *
    clear hvv hcc
    have HF : Hid ((t.tok votes census).fine (t.N + 1)) := tok_fine t (unhide HS) _ _ (by omega) (by omega)
    go_wp2_with fail
    refine (tok_good F a ao c (t.N + 1) (by omega) _ (unhide HG2).env (t.tok votes census) (unhide HF) (unhide HB) (by simp only [In.tok]; omega) (by simp only [In.tok]; omega)).mono ?_
    rintro e w3 ⟨pv, dv, av, rfl, hpv, hdv, hav, hg3⟩
    have hX3 := hide (heap_gb hg3 (unhide hX2))
    have hg03 := gb_none hg02 hg3
    have hvp3 := hvp.kept hg3 (by cases hq : vp.ownBlock <;> simp)
    have hvd3 := hvd.kept hg3 (by cases hq : vd.ownBlock <;> simp)
    have hva3 := hva.kept hg3 (by cases hq : va.ownBlock <;> simp)
    simp only [In.tok] at hvp3 hvd3 hva3 hpv hdv hav
    clear hvp hvd hva hg3 HG2 HB hg02 hX2 HF
    simp only [In.tok]
    obtain ⟨pa, pcc, rfl⟩ := slice_of hpv
    obtain ⟨da, dcc, rfl⟩ := slice_of hdv
    obtain ⟨aa, acc, rfl⟩ := slice_of hav
    obtain ⟨pa', pcc', rfl⟩ := slice_of hvp3
    obtain ⟨da', dcc', rfl⟩ := slice_of hvd3
    obtain ⟨aa', acc', rfl⟩ := slice_of hva3
    have htp := total_le (t.N + 1) t.P
    have htd := total_le (t.N + 1) t.D
    have hsm := unhide HS
    unfold In.small at hsm
    have hla : (t.A.take (t.N + 1)).length ≤ 256 := by rw [List.length_take]; omega
    generalize t.P.map (Raw.enc (t.N + 1)) = rp at *
    generalize t.D.map (Raw.enc (t.N + 1)) = rd at *
    generalize hAT : t.A.take (t.N + 1) = AT at *
    clear hAT
    have hpv' := hide hpv
    have hdv' := hide hdv
    have hav' := hide hav
    have hvp' := hide hvp3
    have hvd' := hide hvd3
    have hva' := hide hva3
    clear hpv hdv hav hvp3 hvd3 hva3
    obtain ⟨p0, p1, p2, p3, p4, p5, p6, p7, lx⟩ := box8 (unhide hX3)
    have hgT := World.grownBy_alloc w3 (.cells #[.int .i64 t.round, .int .i64 votes, .slice pa (Pl.total rp) pcc, .int .u64 ((t.start : Int) % 4611686018427387904), .slice da (Pl.total rd) dcc, .slice aa AT.length acc, .int .i64 census] 35) none
    have hT3 : Hid ((w3.alloc (.cells #[.int .i64 t.round, .int .i64 votes, .slice pa (Pl.total rp) pcc, .int .u64 ((t.start : Int) % 4611686018427387904), .slice da (Pl.total rd) dcc, .slice aa AT.length acc, .int .i64 census] 35)).heap[w3.heap.size]? = some (.cells #[.int .i64 t.round, .int .i64 votes, .slice pa (Pl.total rp) pcc, .int .u64 ((t.start : Int) % 4611686018427387904), .slice da (Pl.total rd) dcc, .slice aa AT.length acc, .int .i64 census] 35 (0, 0))) := heap_alloc_new w3 _
    go_wp2_with fail
    refine (same_c _ _ _ _ _ rp (by omega) ((unhide hpv').alloc _) ((unhide hvp').alloc _)).mono ?_
    rintro e w4 ⟨rfl, hg4⟩
    have hg34 := gb_none hgT hg4
    have hT4 := hide (heap_gb hg4 (unhide hT3))
    clear hg4 hgT hT3 hX3 p0 p1 p2 p3 p4 p5 p6 p7 lx
    generalize w3.heap.size = tb at *
    obtain ⟨q0, q1, q2, q3, q4, q5, q6, lq⟩ := heap35 (unhide hT4)
    go_wp2_with fail
    refine (same_c _ _ _ _ _ rd (by omega) ((unhide hdv').kept hg34 (by cases da <;> simp [Value.ownBlock])) ((unhide hvd').kept hg34 (by cases da' <;> simp [Value.ownBlock]))).mono ?_
    rintro e w5 ⟨rfl, hg5⟩
    have hg35 := gb_none hg34 hg5
    have hT5 := hide (heap_gb hg5 (unhide hT4))
    clear hg5 hg34 hT4 q0 q1 q2 q3 q4 q5 q6 lq
    obtain ⟨q0, q1, q2, q3, q4, q5, q6, lq⟩ := heap35 (unhide hT5)
    go_wp2
    go_loopw [13] (fun vi wr => ∃ i : Nat, i ≤ AT.length ∧ vi = .int .i64 i ∧ w5.grownBy wr none)
      (fun vi _ => AT.length - (intOf vi).toNat)
    case atStart => exact ⟨0, Nat.zero_le _, rfl, World.grownBy.refl _ _⟩
    case round =>
      obtain ⟨i, hiK, rfl, hg6⟩ := hrel
      have hg36 := gb_none hg35 hg6
      have hT6 := hide (heap_gb hg6 (unhide hT5))
      clear q0 q1 q2 q3 q4 q5 q6 lq
      obtain ⟨q0, q1, q2, q3, q4, q5, q6, lq⟩ := heap35 (unhide hT6)
      by_cases hlt : i < AT.length
      · have hii : (i : Int) < (AT.length : Int) := by omega
        obtain ⟨g1, c1, hq1, hx1⟩ := own_u64 ((unhide hav').kept hg36 (by cases aa <;> simp [Value.ownBlock])) i hlt
        obtain ⟨g2, c2, hq2, hx2⟩ := own_u64 ((unhide hva').kept hg36 (by cases aa' <;> simp [Value.ownBlock])) i hlt
        cases hq1
        cases hq2
        obtain ⟨x, hx⟩ : ∃ x, AT[i] = x := ⟨_, rfl⟩
        rw [hx] at hx1 hx2
        clear hx
        have l1 := lt_cell hx1
        have l2 := lt_cell hx2
        simp only at l1 l2
        go_wp2
        go_quiet (fail)
        go_wp2
        exact ⟨⟨i + 1, by omega, by go_num, gb_none hg6 ⟨rfl, rfl, rfl, Nat.le_refl _, fun _ _ _ => rfl⟩⟩, by simp [intOf]; omega⟩
      · have hii : ¬ (i : Int) < (AT.length : Int) := by omega
        go_wp2
        go_ret
        exact ⟨rfl, gb_none hg03 hg36⟩
  · have HS := hide hs
    clear hs
    simp only [In.cells]
    go_enter Ybaf.func3, Ybaf.ntmps3
    go_wp2_with fail
    refine (small_no t po dao aao pc dc ac _ (unhide HS)).mono ?_
    rintro e w1 ⟨rfl, hg1⟩
    go_wp2
    go_ret
    exact ⟨rfl, gb_none hgA hg1⟩
end Go.Proofs.YbulkcrjaFmt
