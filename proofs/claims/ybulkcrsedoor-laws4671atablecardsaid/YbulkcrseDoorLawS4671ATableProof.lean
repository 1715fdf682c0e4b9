/-
  Seat b4671aD: the listed table opened; the row; THE TIED CARD.
-/
import Derived.Test.YbulkcrseDoorTable
import Derived.Test.YbulkcrseDoorTie
import Derived.Test.YbulkcrseDoorCards
import Derived.ProofKit
import Derived.LaidMore
import Derived.OpenShut
import Derived.OpenVars
import Derived.Stop.Joined
import Derived.SevenTiedAt
namespace Go.Proofs.YbulkcrseDoor
open Go.ChangeShapes Go.WideShapes Go.ChangeAt Go.RowKit

theorem own : ownKnob Ybad.prog.godebug = none := by kernel_rfl
theorem laidOut : laidOutB Ybad.prog = true := by kernel_rfl
abbrev tabName : String := Rows.lawS4671ATableSpec.vars.headD ""
theorem gR : Ybad.prog.globalNamed tabName = some 0 := by kernel_rfl
theorem tR : (Ybad.prog.globals[0]?).map (·.type) = some 28 := by kernel_rfl
theorem cells28 : Ybad.prog.cellsOf 28 = 8 := by kernel_rfl
theorem cells27 : Ybad.prog.cellsOf 27 = 2 := by kernel_rfl
theorem cells22 : Ybad.prog.cellsOf 22 = 1 := by kernel_rfl
theorem cells9 : Ybad.prog.cellsOf 9 = 1 := by kernel_rfl

/-- The door's own heap meets the condition. -/
theorem door_met (os : Os) (args : Array Value) : laidMetH Ybad.prog Rows.lawS4671ATableRow.laid ((World.doorLaid Ybad.prog 400 os).forCall (fun _ _ => 0) ⟨#[], args, []⟩).memory :=
  laidMetH_of_parts3 (fuel := 8) (laidMet_of_run' 8 (by kernel_rfl) (by kernel_rfl)) (by kernel_rfl) (by kernel_rfl)

section
variable {H : Type} {enc : TypeId × Value → H} {w : World} {sp : Nat → Bool} {held : Bool}
set_option maxRecDepth 100000 in
/-- One entry of the table. -/
theorem open_entry {fuel : Nat} {c0 c1 : Value} {n f : List UInt8} {ps : List MemPlace} (h : DataW.trod enc Ybad.prog w 0 sp held fuel 27 [c0, c1] = some (.agg [.lit (.string n), .lit (.string f)], ps)) :
    ∃ s : ByteArray, c1 = .string s ∧ s.data.toList = f := by
  obtain ⟨xs, m, _, hx, _, hl, hf⟩ := DataW.trod_struct Ybad.underlying27 h
  have hl' : xs.length = 2 := hl
  match xs, hl' with
  | [x0, x1], _ =>
    have f1 : DataW.trod enc Ybad.prog w 0 sp held m 22 (([c0, c1].drop 1).take (Ybad.prog.cellsOf 22)) = [x0, x1][1]? := hf 1 _ rfl
    rw [cells22] at f1
    replace f1 : DataW.trod enc Ybad.prog w 0 sp held m 22 [c1] = some x1 := f1
    obtain ⟨s, e1, e2, _⟩ := DataW.trod_string Ybad.underlying22 f1
    simp only [List.cons.injEq, and_true] at e1
    refine ⟨s, e1, ?_⟩
    simp only [List.map_cons, List.map_nil, Prod.mk.injEq, DataW.agg.injEq, List.cons.injEq, and_true] at hx
    have := hx.1.2
    rw [e2] at this
    simpa using this.symm
end

set_option maxRecDepth 100000 in
/-- WHAT THE CONDITION GIVES THE WALKS. -/
theorem of_laid {W : World} (h : laidMetH Ybad.prog Rows.lawS4671ATableRow.laid W) : Tab W := by
  rw [MakeChecks.laidMetH_plain _ _ _ (by kernel_rfl)] at h
  obtain ⟨ps, ⟨g0, t0, cs0, f0, p0, q0, hg0, ht0, hv0, hd0, _, _⟩, _, _⟩ := h
  obtain rfl := Option.some.inj (gR.symm.trans hg0)
  obtain rfl := Option.some.inj (tR.symm.trans ht0)
  obtain ⟨xs, m, _, hx, hl, hn, hel⟩ := DataW.trod_array Ybad.underlying28 hd0
  rw [cells28] at hl
  obtain ⟨l⟩ := cs0
  have hcell := World.var?_cell hg0 hv0
  simp only [Rows.laid_example_com_weftway_weftway_pkg_node_replies] at hx
  match l, hl, xs, hn with
  | [c0, c1, c2, c3, c4, c5, c6, c7], _, [x0, x1, x2, x3], _ =>
    have e0 := hel 0 (by decide)
    have e1 := hel 1 (by decide)
    have e2 := hel 2 (by decide)
    have e3 := hel 3 (by decide)
    rw [cells27] at e0 e1 e2 e3
    simp only [List.map_cons, List.map_nil, Prod.mk.injEq, DataW.agg.injEq, List.cons.injEq, and_true] at hx
    obtain ⟨⟨y0, y1, y2, y3⟩, _⟩ := hx
    obtain ⟨d0, q0⟩ := x0
    obtain ⟨d1, q1⟩ := x1
    obtain ⟨d2, q2⟩ := x2
    obtain ⟨d3, q3⟩ := x3
    simp only at y0 y1 y2 y3
    subst y0 y1 y2 y3
    obtain ⟨a0, h0, k0⟩ := open_entry e0
    obtain ⟨a1, h1, k1⟩ := open_entry e1
    obtain ⟨a2, h2, k2⟩ := open_entry e2
    obtain ⟨a3, h3, k3⟩ := open_entry e3
    have by' : ∀ (s : ByteArray) (t : Array UInt8), s.data.toList = t.toList → s = ⟨t⟩ := fun s t e => by
      cases s
      simp only at e
      simp only [ByteArray.mk.injEq]
      exact Array.toList_inj.1 e
    have z0 : a0 = s0 := by' a0 _ k0
    have z1 : a1 = s1 := by' a1 _ k1
    have z2 : a2 = s2 := by' a2 _ k2
    have z3 : a3 = s3 := by' a3 _ k3
    subst z0 z1 z2 z3 h0 h1 h2 h3
    exact ⟨by simpa using hcell 1, by simpa using hcell 3, by simpa using hcell 5, by simpa using hcell 7⟩

set_option maxRecDepth 100000 in
theorem lifted (os : Os) (started : os.Started) (H : Type) (enc : TypeId × Value → H) :
    ReturnsInHanded {} Ybad.checked os 3 .any (fun w args => (Rows.lawS4671ATableSpec.pre enc Ybad.prog Ybad.f3 [] false w args ∧ laidMetH Ybad.prog Rows.lawS4671ATableRow.laid w) ∧ sizedMet enc Ybad.prog Ybad.f3 (OpenSpec.ofChange Rows.lawS4671ATableSpec) false w args)
      (Rows.lawS4671ATableSpec.post enc Ybad.prog Ybad.f3 false true false false) := by
  refine returnsInHanded_of_change_and (C := Ybad.checked) (X := fun w _ => laidMetH Ybad.prog Rows.lawS4671ATableRow.laid w) (fun _ _ _ hh h => h.of_heap hh) own started (by kernel_rfl) Ybad.func3
    (ChangeSpec.witness_shaped (enc := enc) (C := Ybad.checked) (os := os) (X := fun w _ => laidMetH Ybad.prog Rows.lawS4671ATableRow.laid w) false (World.doorLaid Ybad.prog 400 os) #[.int .u8 0] 8 rfl (World.shaped_of_RefB (by kernel_rfl) (by kernel_rfl)) (by kernel_rfl) (by kernel_rfl) (by kernel_rfl) (door_met os _)) ?_
  intro W base args ds gs before hval0 hW _ _ hL _
  have hval : ∀ (j : Nat) t v, Ybad.f3.params[j]? = some t → args[j]? = some v → Value.okWide Ybad.prog W .any base t v := hval0
  have hW' := hW
  obtain ⟨p, q, hA0, hV0, rfl, hfz, hnd⟩ := hW
  have hA : DataW.TrodAll enc Ybad.prog W 0 (fun _ => true) true Ybad.f3.params.toList args.toList ds p := hA0
  have hV : DataW.TrodVars enc Ybad.prog W (fun _ => true) [tabName] gs q := hV0
  rw [Ybad.params3] at hA hval
  obtain ⟨v0, d0, rfl, rfl, h0⟩ := trodAll_one hA
  obtain ⟨b, rfl, rfl, rfl, wb⟩ := open_int Ybad.underlying5 (hval 0 5 v0 rfl rfl) h0
  have hT := of_laid hL
  have hb0 : 0 ≤ b ∧ b ≤ 255 := by simpa [Lit.wf, IntKind.min, IntKind.max, IntKind.signed, IntKind.bits] using wb
  obtain ⟨g, rfl⟩ : ∃ g, gs = [g] := by
    match gs, hV with
    | [g], _ => exact ⟨g, rfl⟩
    | g :: g' :: r, h => obtain ⟨_, _, _, _, _, _, _, _, _, _, hh, _⟩ := h; exact hh.elim
  clear hA0 hval0
  refine (law_c b hb0.1 (by omega) W hT).mono fun e W' ⟨he, hw⟩ => ?_
  subst he; subst hw
  have hbl : Below W'.heap.size W' W' := ⟨rfl, rfl, rfl, Nat.le_refl _, fun _ _ => rfl⟩
  refine ⟨_, rfl, _, _, _, [], [], q, hW', ?_, ?_, ?_, World.keptBut_refl _ _, fun h => by cases h⟩
  · exact trodAll_mk1 (shut_bool Ybad.underlying4 true)
  · show DataW.TrodAll enc Ybad.prog W' 0 _ true Ybad.f3.params.toList _ _ _
    rw [Ybad.params3]
    exact trodAll_mk1 (shut_int Ybad.underlying5 wb)
  · exact Below.trodVars laidOut hbl (by kernel_rfl) hV

theorem row_holds : Rows.LawS4671ATableSaid :=
  OpenClaim.holds_of_wide 3 Ybad.f3 rfl rfl rfl rfl rfl rfl rfl ⟨rfl, rfl, rfl, rfl, rfl⟩ rfl rfl rfl rfl rfl (by kernel_rfl) Ybad.func3 (by kernel_rfl)
    (of_decide_eq_true (by kernel_rfl)) (by unfold Func.isWrapper; first | (rw [if_pos (by decide +kernel)]; kernel_rfl) | (rw [if_neg (by decide +kernel)]; exact ⟨rfl, rfl⟩))
    (fun os started H enc _ => lifted os started H enc)

theorem lawS4671ATable.proved : Rows.LawS4671ATableCardSaid :=
  Claim7.holds_tied_plain_at .later [] [.data] true _ false
    row_holds (fun _ h => by cases h) (by kernel_rfl) (fun _ h => by cases h) lawS4671ATable_row_tie rfl ⟨rfl, rfl⟩ (by kernel_rfl) rfl
    (fun f fn hf hfn => by
      obtain rfl : f = 3 := Option.some.inj ((show Ybad.prog.funcNamed Rows.lawS4671ATableRow.func = some 3 by kernel_rfl).symm.trans hf) |>.symm
      obtain rfl : fn = Ybad.f3 := (Option.some.inj (Ybad.func3.symm.trans hfn)).symm
      exact ⟨by kernel_rfl, fun j t ht => by
        rw [Ybad.params3] at ht
        have h3 : t = 5 := by
          rcases j with _ | j
          · simpa using ht.symm
          · simp at ht
        subst h3
        exact (show Ybad.prog.wantsStandIn 5 = false by kernel_rfl)⟩)
    (by kernel_rfl)
end Go.Proofs.YbulkcrseDoor
