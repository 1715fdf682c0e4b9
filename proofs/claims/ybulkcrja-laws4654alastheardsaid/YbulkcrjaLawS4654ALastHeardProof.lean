/-
  A PROOF OF 'Rows.LawS4654ALastHeardSaid' ('example.com/batonring/batonring.LawS4654ALastHeard'), in the frame that the guide's program lays for it.
-/
import Derived.Test.YbulkcrjaHeard
import Derived.WalkKit
import Derived.ProofKit
import Derived.OpenShut
import Derived.ShutString
namespace Go.Proofs.Ybulkcrja.lawS4654ALastHeard
open Go.ChangeShapes Go.WideShapes Go.ChangeAt Go.RowKit
open Go.ChangeMaps (open_string shut_string)
set_option linter.unusedVariables false      -- a walk need not use every 'w<i>' (that an integer argument fits its kind)

theorem own : ownKnob Yba.prog.godebug = none := by kernel_rfl

/-! ### STEP 1: THE WALK: the Go text returns true. -/
theorem grown (w : World) (buf : Array Value) (s : Nat) (last susp : Int) : Grown w (DW w buf s last susp).drew := by
  have h1 : Grown w (w.alloc (.chan 1 buf false s 0 false)) := by
    refine ⟨World.keptBut_alloc _ _ _, fun a => ?_, by show w.heap.size ≤ (w.heap.push _).size; simp⟩
    by_cases h : a.block = w.heap.size
    · have e1 : (w.alloc (.chan 1 buf false s 0 false)).heap[a.block]? = some (.chan 1 buf false s 0 false) := by rw [h]; exact (MapKept.heap_alloc w _).1
      have e2 : w.heap[a.block]? = none := by rw [h]; simp
      simp [World.frozen?, e1, e2]
    · exact World.frozen?_alloc_old _ _ _ h
  exact (h1.alloc _ _).drew

theorem lastHeard_any (w : World) (buf : Array Value) (s : Nat) (last susp : Int) :
    Calls Yba.prog 9 #[.pointer (some ⟨w.heap.size + 1, 0, none⟩)] (DW w buf s last susp).drew fun e w' => e = .returned (.tuple #[.int .i64 (last / 2), .bool (bits .and .i64 last 1 == 1)]) ∧ w' = (DW w buf s last susp).drew := by
  go_enter Yba.func9, Yba.ntmps9
  go_wp2_with fail
  refine (load64 ⟨w.heap.size + 1, 2, none⟩ _ _ (by exact DW_last _ _ _ _ _)).mono ?_
  rintro e w' ⟨rfl, rfl⟩
  go_wp2
  go_ret2
  exact ⟨rfl, rfl⟩

theorem back (now : Int) (q : Bool) (h1 : -4611686018427387904 ≤ now) (h2 : now < 4611686018427387904) : atv now q / 2 = now ∧ (bits .and .i64 (atv now q) 1 == 1) = q := by
  rw [and1]
  unfold atv b32 wrap64
  refine ⟨?_, ?_⟩
  · cases q <;> simp <;> omega
  · cases q
    · simp; omega
    · simp; omega

theorem walk_in (a0 : Int) (a1 : Int) (a2 : Bool) (a3 : Bool) (h1 : -4611686018427387904 ≤ a1) (h2 : a1 < 4611686018427387904) (w : World) :
    Calls Yba.prog 4 #[.int .i64 a0, .int .i64 a1, .bool a2, .bool a3] w fun e w' => e = .returned (.bool true) ∧ Grown w w' := by
  have hb : Hid _ := back a1 a2 h1 h2
  go_enter Yba.func4, Yba.ntmps4
  go_wp2_with fail
  refine (anew_any a0 a3 false _).mono ?_
  rintro e w' ⟨rfl, rfl⟩
  go_wp2_with fail
  refine (heard_any w a0 a1 a2 a3 false).mono ?_
  rintro e w' ⟨rfl, rfl⟩
  go_wp2_with fail
  refine (lastHeard_any w _ _ _ _).mono ?_
  rintro e w' ⟨rfl, rfl⟩
  rw [(unhide hb).1, (unhide hb).2]
  cases a2
  all_goals
    go_wp2
    go_ret
    exact ⟨rfl, grown _ _ _ _ _⟩

theorem walk (a0 : Int) (a1 : Int) (a2 : Bool) (a3 : Bool) (w0 : (Lit.int .i64 a0).wf = true) (w1 : (Lit.int .i64 a1).wf = true) (w : World) :
    Calls Yba.prog 4 #[.int .i64 a0, .int .i64 a1, .bool a2, .bool a3] w fun e w' => e = .returned (.bool true) ∧ Grown w w' := by
  by_cases h1 : a1 < -4611686018427387904
  · go_enter Yba.func4, Yba.ntmps4
    go_wp2
    go_ret
    exact ⟨rfl, Grown.refl _⟩
  · by_cases h2 : 4611686018427387904 ≤ a1
    · go_enter Yba.func4, Yba.ntmps4
      go_wp2
      go_ret
      exact ⟨rfl, Grown.refl _⟩
    · exact walk_in a0 a1 a2 a3 (by omega) (by omega) w

/-! ### THE ROW's STEP: WRITTEN OUT: LEAVE IT -/
set_option maxRecDepth 100000 in
theorem lifted (os : Os) (started : os.Started) (H : Type) (enc : TypeId × Value → H) :
    ReturnsInHanded {} Yba.checked os 4 .any (Rows.lawS4654ALastHeardSpec.pre6 enc Yba.prog Yba.f4 Rows.lawS4654ALastHeardRow.domain false) (Rows.lawS4654ALastHeardSpec.post enc Yba.prog Yba.f4 false true false false) := by
  refine returnsInHanded_of_change (C := Yba.checked) own started (by kernel_rfl) Yba.func4
    (ChangeSpec.witness6 (enc := enc) (C := Yba.checked) false ⟨#[], #[.int .i64 0, .int .i64 0, .bool false, .bool false], []⟩ 8 (by kernel_rfl) (by kernel_rfl) (by kernel_rfl) (by kernel_rfl)) ?_
  intro W base args ds gs before hval0 hW hcnd _
  have hval : ∀ (j : Nat) t v, Yba.f4.params[j]? = some t → args[j]? = some v → Value.okWide Yba.prog W .any base t v := hval0
  have hW' := hW
  obtain ⟨p, q, hA0, hV, rfl, hfz, hnd⟩ := hW
  have hA : DataW.TrodAll enc Yba.prog W 0 (fun _ => true) true Yba.f4.params.toList args.toList ds p := hA0
  rw [Yba.params4] at hA hval
  obtain ⟨v0, vs0, d0, ds0, p0, q0, hargs, rfl, rfl, h0, r0⟩ := trodAll_cons hA
  obtain ⟨v1, vs1, d1, ds1, p1, q1, rfl, rfl, rfl, h1, r1⟩ := trodAll_cons r0
  obtain ⟨v2, vs2, d2, ds2, p2, q2, rfl, rfl, rfl, h2, r2⟩ := trodAll_cons r1
  obtain ⟨v3, vs3, d3, ds3, p3, q3, rfl, rfl, rfl, h3, r3⟩ := trodAll_cons r2
  obtain ⟨rfl, rfl, rfl⟩ := trodAll_nil r3
  obtain rfl : args = #[v0, v1, v2, v3] := by cases args; simp_all
  obtain ⟨rfl, rfl⟩ := trodVars_none hV
  obtain ⟨a0, rfl, rfl, rfl, w0⟩ := open_int Yba.underlying2 (hval 0 2 v0 rfl rfl) h0
  obtain ⟨a1, rfl, rfl, rfl, w1⟩ := open_int Yba.underlying2 (hval 1 2 v1 rfl rfl) h1
  obtain ⟨a2, rfl, rfl, rfl⟩ := open_bool Yba.underlying4 (hval 2 4 v2 rfl rfl) h2
  obtain ⟨a3, rfl, rfl, rfl⟩ := open_bool Yba.underlying4 (hval 3 4 v3 rfl rfl) h3
  clear hA0 hval0
  simp only [List.append_nil] at hW'
  refine (walk a0 a1 a2 a3 w0 w1 W).mono fun e W' ⟨he, hg⟩ => ?_
  subst he
  exact ⟨_, rfl, post_of_same (pa := []) (pv := []) hW' (fun _ _ _ => (trodAll_cons_mk (shut_bool Yba.underlying4 _) trodAll_mk0)) (fun sp _ => (trodAll_cons_mk (shut_int Yba.underlying2 w0) (trodAll_cons_mk (shut_int Yba.underlying2 w1) (trodAll_cons_mk (shut_bool Yba.underlying4 _) (trodAll_cons_mk (shut_bool Yba.underlying4 _) trodAll_mk0))))) (fun _ _ => rfl) rfl
    (hg.frame _) hg.2.1 (ok_one (by kernel_rfl) rfl (okWide_bool_mk Yba.underlying4 _))⟩

theorem over : Rows.lawS4654ALastHeardRow.holds Yba.pinned (OpenSpec.ofChange Rows.lawS4654ALastHeardSpec) :=
  OpenClaim.holds_of_wide 4 Yba.f4 rfl rfl rfl rfl rfl rfl rfl ⟨rfl, rfl, rfl, rfl, rfl⟩ rfl rfl rfl rfl rfl (by kernel_rfl) Yba.func4 (by kernel_rfl)
    (of_decide_eq_true (by kernel_rfl)) (by unfold Func.isWrapper; first | (rw [if_pos (by decide +kernel)]; kernel_rfl) | (rw [if_neg (by decide +kernel)]; exact ⟨rfl, rfl⟩))
    (fun os started H enc _ => lifted os started H enc)

/-- ████ THE STATEMENT ████ -/
theorem proved : Rows.LawS4654ALastHeardSaid :=
  over
end Go.Proofs.Ybulkcrja.lawS4654ALastHeard
