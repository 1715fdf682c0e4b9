/-
  Seat b4654aF: THE CARD of 'LawS4654BDamaged'.
-/
import Derived.Test.YbulkcrjaFmtBase
import Derived.Test.YbulkcrjaFmtDamaged
namespace Go.Proofs.YbulkcrjaFmt
open Go.ChangeShapes Go.WideShapes Go.ChangeAt Go.RowKit Go.Kit
open Go.Extern.Stop Go.Stop Go.Extern

theorem params5 : Ybaf.f5.params.toList = [26, 41, 5] := by kernel_rfl

set_option maxRecDepth 100000 in
theorem damaged_lifted (os : Os) (started : os.Started) (H : Type) (enc : TypeId × Value → H) :
    ReturnsInTold none {} Ybaf.checked os 5 .any Input.okWide ((OpenSpec.ofChange Rows.lawS4654BDamagedSpec).preRow enc Ybaf.prog Ybaf.f5 [] false Rows.lawS4654BDamagedRow.laid) (fun F => ((OpenSpec.ofChange Rows.lawS4654BDamagedSpec).at F).post enc Ybaf.prog Ybaf.f5 false true false false) (aloneAtReturn Ybaf.prog) nothingAlways := by
  refine returnsInTold_of_row (C := Ybaf.checked) (s := OpenSpec.ofChange Rows.lawS4654BDamagedSpec) (by kernel_rfl) own started (by kernel_rfl) Ybaf.func5
    (OpenSpec.witness_stopped_at (enc := enc) (C := Ybaf.checked) false (World.doorLaid Ybaf.prog 400 os) #[zeroIn, .int .u16 0, .int .u8 0] rfl (by kernel_rfl) (by kernel_rfl) (by kernel_rfl)
      (OpenSpec.preRow_of_B rfl 8 (by kernel_rfl) (by kernel_rfl) (laid_met os _))) ?_
  intro F W base args ds gs before _ hF hval0 hW _ _ _ hL _
  have hW' := hW
  obtain ⟨p, q, hA0, hV0, rfl, hfz, hnd⟩ := hW
  have hA : DataW.TrodAll enc Ybaf.prog W 0 (fun _ => true) true Ybaf.f5.params.toList args.toList ds p := hA0
  have hV : DataW.TrodVars enc Ybaf.prog W (fun _ => true) [errName] gs q := hV0
  rw [params5] at hA
  obtain ⟨v0, v1, v2, d0, d1, d2, p0, p1, p2, rfl, rfl, rfl, h0, h1, h2⟩ := trodAll_three hA
  have ok0 : Value.okWide Ybaf.prog W .any base 26 v0 := hval0 0 26 v0 (by rw [← Array.getElem?_toList, params5]; rfl) rfl
  have ok1 : Value.okWide Ybaf.prog W .any base 41 v1 := hval0 1 41 v1 (by rw [← Array.getElem?_toList, params5]; rfl) rfl
  have ok2 : Value.okWide Ybaf.prog W .any base 5 v2 := hval0 2 5 v2 (by rw [← Array.getElem?_toList, params5]; rfl) rfl
  have h0k := h0
  have h1k := h1
  have h2k := h2
  obtain ⟨b1, rfl, _, _, wb1⟩ := open_int Ybaf.underlying41 ok1 h1
  obtain ⟨m1, rfl, l1⟩ := nat_of (m := 65536) wb1 (by decide) (by decide)
  obtain ⟨b2, rfl, _, _, wb2⟩ := open_int Ybaf.underlying5 ok2 h2
  obtain ⟨m2, rfl, l2⟩ := nat_of (m := 256) wb2 (by decide) (by decide)
  obtain ⟨t, po, dao, aao, pc, dc, ac, rfl, hP, hD, hAk⟩ := open_in ok0 h0
  obtain ⟨a1, s1, hv1, hc1, hs1, hz1⟩ := laid_sentinel hL gB gBType Ybaf.underlying37 row129 Ybaf.underlying129 Ybaf.underlying131 rfl rfl Ybaf.underlying9 cells131 cells9
  obtain ⟨rfl, rfl⟩ := hV.unique (vars_read1 enc gB gBType Ybaf.underlying37 hv1 trivial _)
  have hg1 : W.cell? ⟨0, 0, none⟩ = some (.iface 129 (.pointer (some a1))) := by simpa using World.var?_cell gB hv1 0
  have hlt : ∀ x ∈ p0 ++ p1 ++ p2, x.block < W.heap.size := fun x hx => hW'.lt x (List.mem_append_left _ hx)
  clear hA0 hV0 hval0
  refine (damaged_c F.told a1 t po dao aao pc dc ac m1 m2 l1 l2 W ⟨⟨hF, hg1, s1, hc1⟩, hP, hD, hAk⟩).mono fun e W' ⟨he, hgr⟩ => ?_
  subst he
  have e1 : (((OpenSpec.ofChange Rows.lawS4654BDamagedSpec).at F.told).fn H ([d0, d1, d2] ++ [tok enc (.iface 129 (.pointer (some a1)))])) = { results := [.lit (.bool true)], args := [d0, d1, d2], vars := [tok enc (.iface 129 (.pointer (some a1)))] } := rfl
  refine ⟨_, rfl, _, _, _, [], p0 ++ (p1 ++ p2), [.cell 0 0], hW', ?_, ?_, ?_, kept_grown hgr _, fun h => by cases h⟩
  · rw [e1]; exact trodAll_mk1 (shut_bool Ybaf.underlying4 true)
  · rw [e1]
    show DataW.TrodAll enc Ybaf.prog W' 0 _ true Ybaf.f5.params.toList _ _ _
    rw [params5]
    have hb := gb_below hgr (Nat.le_refl _) (by simp)
    exact trodAll_mk3 (Below.trod laidOut (by kernel_rfl) (of_decide_eq_true (by kernel_rfl)) h0k hb (fun x hx => hlt x (by simp [hx]))) (Below.trod laidOut (by kernel_rfl) (of_decide_eq_true (by kernel_rfl)) h1k hb (fun x hx => hlt x (by simp [hx]))) (Below.trod laidOut (by kernel_rfl) (of_decide_eq_true (by kernel_rfl)) h2k hb (fun x hx => hlt x (by simp [hx])))
  · rw [e1]; exact vars_read1 enc gB gBType Ybaf.underlying37 (var?_grown hgr hv1) trivial _

theorem lawS4654BDamaged.proved : Rows.LawS4654BDamagedToldSaid :=
  Claim7.holds_of_told_tied_any_at .later 5 Ybaf.f5 "fmt.Sprintf" ["fmt.errorf"] [] _ _ _ _ _ (by kernel_rfl) rfl rfl rfl laidOut (by kernel_rfl) rfl ⟨rfl, rfl, rfl, rfl, rfl, rfl, rfl⟩ rfl rfl (by kernel_rfl) (by kernel_rfl) Ybaf.func5 (by kernel_rfl)
    (of_decide_eq_true (by kernel_rfl)) (of_decide_eq_true (by kernel_rfl)) stopsAre.symm rfl stopKnobsAre.symm (by kernel_rfl)
    (by kernel_rfl) (by kernel_rfl) (by kernel_rfl) (by kernel_rfl) (by kernel_rfl) (by kernel_rfl) (by kernel_rfl) (by kernel_rfl) (by kernel_rfl) rfl (by kernel_rfl) rfl rfl
    rfl rfl
    rfl (by kernel_rfl) (by kernel_rfl) (by kernel_rfl) (by decide) (by kernel_rfl) lawS4654BDamaged_row_tie
    (OpenClaim.moreEntering_of (by kernel_rfl) (by kernel_rfl) (by kernel_rfl) (by kernel_rfl) (by kernel_rfl) (by kernel_rfl) (by kernel_rfl) (by kernel_rfl) (by kernel_rfl) (by kernel_rfl))
    ⟨_, WideRow.started_initial, quiet _⟩
    (fun os started _ H enc _ => damaged_lifted os started H enc)
end Go.Proofs.YbulkcrjaFmt
