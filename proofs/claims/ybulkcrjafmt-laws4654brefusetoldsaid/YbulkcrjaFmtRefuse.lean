/-
  Seat b4654aF: the law 'LawS4654BRefuse', walked.
-/
import Derived.Test.YbulkcrjaFmtSmall
import Derived.Test.YbulkcrjaFmtIs
namespace Go.Proofs.YbulkcrjaFmt
open Go.RowKit Go.Extern.Stop Go.Stop Go.Extern

theorem nil29 (w : World) : (binOp .eql 29 (.slice none 0 0) (.slice none 0 0)).run Ybaf.prog w = .ok (.bool true) w := by kernel_rfl
theorem nil24 (w : World) : (binOp .eql 24 (.slice none 0 0) (.slice none 0 0)).run Ybaf.prog w = .ok (.bool true) w := by kernel_rfl
attribute [local go_sem] nil29 nil24

set_option maxHeartbeats 2000000 in
set_option maxRecDepth 100000 in
theorem refuse_c (F : Interp) (a : Addr) (t : In) (po dao aao : Option Addr) (pc dc ac : Nat) (over : Nat) (b : Bool) (ho : over < 65536) (w : World) (hG : Ground F a t po dao aao w) :
    Calls Ybaf.prog 4 #[.agg (t.cells po dao aao pc dc ac), .int .u16 over, .bool b] w fun e w' => e = .returned (.bool true) ∧ w.grownBy w' none := by
  have hN := t.N8
  have hv := t.v64
  have hc := t.c64
  have hgA := World.grownBy_alloc w (.cells (t.cells po dao aao pc dc ac) 26) none
  have hbx : Hid ((w.alloc (.cells (t.cells po dao aao pc dc ac) 26)).heap[w.heap.size]? = some (.cells (t.cells po dao aao pc dc ac) 26 (0, 0))) := heap_alloc_new w _
  have HG := hide (hG.grown hgA)
  clear hG
  by_cases hs : t.small
  · have HS := hide hs
    clear hs
    simp only [In.cells]
    go_enter Ybaf.func4, Ybaf.ntmps4
    go_wp2_with fail
    refine (small_yes t po dao aao pc dc ac _ (unhide HS)).mono ?_
    rintro e w1 ⟨rfl, hg1⟩
    have HG1 := hide ((unhide HG).grown hg1)
    have hX1 := hide (heap_gb hg1 (unhide hbx))
    have hg01 := gb_none hgA hg1
    clear hg1 hgA hbx HG
    generalize w.heap.size = xb at *
    obtain ⟨p0, p1, p2, p3, p4, p5, p6, p7, lx⟩ := box8 (unhide hX1)
    cases b
    · go_wp2_with fail
      have hm := Nat.mod_lt t.votes (show t.N + 1 + 1 > 0 by omega)
      refine (body_g F a t po dao aao pc dc ac _ _ (t.votes % (t.N + 1 + 1)) (t.N + 1 + 1 + over) (by simp) (by simp) (by omega) (by omega) _ (unhide HG1) (unhide HS)).mono ?_
      rintro e w2 ⟨ao, c, vp, vd, va, rfl, _, hB, _, _, _, hg2⟩
      have HB := hide hB
      clear hB
      have HG2 := hide ((unhide HG1).grown hg2)
      have hg02 := gb_none hg01 hg2
      clear hg2 HG1 hg01 hX1 p0 p1 p2 p3 p4 p5 p6 p7 lx
      generalize htk : t.tok (t.votes % (t.N + 1 + 1)) (t.N + 1 + 1 + over) = tk at *
      have HF : Hid (tk.fine (t.N + 1)) := by
        rw [← htk]
        exact tok_fine t (unhide HS) _ _ (by omega) (by omega)
      have HO : Hid (t.N + 1 < tk.votes ∨ t.N + 1 < tk.census) := by
        show _ ∨ _
        rw [← htk]
        simp only [In.tok]
        omega
      clear htk
      go_wp2_with fail
      refine (tok_over F a ao c (t.N + 1) (by omega) _ (unhide HG2).env tk (unhide HF) (unhide HB) (unhide HO)).mono ?_
      rintro e w3 ⟨pb, txt, rfl, hpb, hg3⟩
      have hE3 := hide ((unhide HG2).env.grown hg3)
      have hg03 := gb_none hg02 hg3
      have HPB := hide hpb
      have hv3 := (unhide hE3).var
      have lv3 := lt_cell hv3
      simp only at lv3
      clear hpb hg3 HG2 HB hg02
      simp only [zeroTok]
      go_wp2_with fail
      have hgA := World.grownBy_alloc w3 (.cells zeroTok 35) none
      simp only [zeroTok] at hgA
      refine (is_wrap_same pb 0 a _ (cell_heap (heap_gb hgA (unhide HPB)) 1)).mono ?_
      rintro e w4 ⟨rfl, rfl⟩
      go_wp2
      go_ret
      exact ⟨rfl, gb_none hg03 hgA⟩
    · go_wp2_with fail
      have hm := Nat.mod_lt t.census (show t.N + 1 + 1 > 0 by omega)
      refine (body_g F a t po dao aao pc dc ac _ _ (t.N + 1 + 1 + over) (t.census % (t.N + 1 + 1)) (by simp) (by simp) (by omega) (by omega) _ (unhide HG1) (unhide HS)).mono ?_
      rintro e w2 ⟨ao, c, vp, vd, va, rfl, _, hB, _, _, _, hg2⟩
      have HB := hide hB
      clear hB
      have HG2 := hide ((unhide HG1).grown hg2)
      have hg02 := gb_none hg01 hg2
      clear hg2 HG1 hg01 hX1 p0 p1 p2 p3 p4 p5 p6 p7 lx
      generalize htk : t.tok (t.N + 1 + 1 + over) (t.census % (t.N + 1 + 1)) = tk at *
      have HF : Hid (tk.fine (t.N + 1)) := by
        rw [← htk]
        exact tok_fine t (unhide HS) _ _ (by omega) (by omega)
      have HO : Hid (t.N + 1 < tk.votes ∨ t.N + 1 < tk.census) := by
        show _ ∨ _
        rw [← htk]
        simp only [In.tok]
        omega
      clear htk
      go_wp2_with fail
      refine (tok_over F a ao c (t.N + 1) (by omega) _ (unhide HG2).env tk (unhide HF) (unhide HB) (unhide HO)).mono ?_
      rintro e w3 ⟨pb, txt, rfl, hpb, hg3⟩
      have hE3 := hide ((unhide HG2).env.grown hg3)
      have hg03 := gb_none hg02 hg3
      have HPB := hide hpb
      have hv3 := (unhide hE3).var
      have lv3 := lt_cell hv3
      simp only at lv3
      clear hpb hg3 HG2 HB hg02
      simp only [zeroTok]
      go_wp2_with fail
      have hgA := World.grownBy_alloc w3 (.cells zeroTok 35) none
      simp only [zeroTok] at hgA
      refine (is_wrap_same pb 0 a _ (cell_heap (heap_gb hgA (unhide HPB)) 1)).mono ?_
      rintro e w4 ⟨rfl, rfl⟩
      go_wp2
      go_ret
      exact ⟨rfl, gb_none hg03 hgA⟩
  · have HS := hide hs
    clear hs
    simp only [In.cells]
    go_enter Ybaf.func4, Ybaf.ntmps4
    go_wp2_with fail
    refine (small_no t po dao aao pc dc ac _ (unhide HS)).mono ?_
    rintro e w1 ⟨rfl, hg1⟩
    go_wp2
    go_ret
    exact ⟨rfl, gb_none hgA hg1⟩
end Go.Proofs.YbulkcrjaFmt
