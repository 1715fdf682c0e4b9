/-
  Seat b4654a: the two functions that communicate (a send with room; a select of one send with a default), as contracts.
-/
import Derived.Test.YbulkcrjaParts
import Derived.Outline
namespace Go.Proofs.Ybulkcrja
open Go.RowKit Go.Conc

/-- The one value of type struct{}. -/
def unit : Value := .agg #[]

set_option maxRecDepth 100000 in
theorem signal_room (w : World) (last susp : Int) :
    Calls Yba.prog 14 #[.pointer (some ⟨w.heap.size + 1, 0, none⟩)] (DW w #[] 0 last susp).drew fun e w' => e = .returned (.tuple #[]) ∧ w' = (DW w #[unit] 1 last susp).drew := by
  refine calls_of_loneTo fun cs => ?_
  have e : Frame.enter Yba.prog 14 #[.pointer (some ⟨w.heap.size + 1, 0, none⟩)] .normal = (base 14).at ⟨#[.pointer (some ⟨w.heap.size + 1, 0, none⟩), undef, undef, undef, undef, undef, undef, undef, undef, undef], []⟩ [.code (Yba.f14.body.getD .skip)] := by
    simp [Frame.enter, Frame.at, Yba.func14, base, Yba.f14]
    try rfl
  rw [e]
  have hch := DW_chan w #[] 0 last susp
  have hset := DW_setChan w #[] #[unit] 0 1 last susp
  have hld : (DW w #[] 0 last susp).cell? ⟨w.heap.size + 1, 3, none⟩ = some (.chan (some w.heap.size)) := by simp only [DW]; go_simp
  generalize DW w #[] 0 last susp = W at *
  refine LoneTo.goes (n := 15) ?_
  simp only [Yba.f14, Option.getD_some]
  s_c stepG_seq
  s_c stepG_seq
  s_reg
  s_op
  s_op
  s_op
  s_op
  s_c stepG_region_end
  s_reg
  s_op
  s_c stepG_region_end
  s_c stepG_seq
  s_reg
  s_stop
  refine LoneTo.step (step_lone_select_send_room (c := w.heap.size) (v := unit) (z' := unit) (cap := 1) (buf := #[]) (s := 0) (r := 0) (tm := false) (stepG_comm (cases := #[scase w.heap.size unit unit]) (blocking := false) (shape := .select) (w' := W.drew) rfl rfl (by decide) (by simp [go_sem, execOp, scase, Act.eval, unit])) hch (by simp)) ?_
  rw [Frame.finish_at]
  have hset' : W.drew.setChan w.heap.size 1 ((#[] : Array Value).push unit) false (0 + 1) 0 false = (DW w #[unit] 1 last susp).drew := hset
  rw [hset']
  walk_nrm
  refine LoneTo.goes (n := 8) ?_
  s_op
  s_op
  s_c stepG_region_end
  s_c stepG_block
  s_cond true
  s_c stepG_skip
  s_c stepG_inBlock
  s_c stepG_end
  s_stop
  exact LoneTo.done ⟨.returned (.tuple #[]), _, rfl, ⟨rfl, rfl⟩, rfl, rfl, rfl, rfl, _, Yba.func14, by simp [results, Yba.f14, Frame.at]⟩

set_option maxRecDepth 100000 in
theorem signal_full (w : World) (last susp : Int) :
    Calls Yba.prog 14 #[.pointer (some ⟨w.heap.size + 1, 0, none⟩)] (DW w #[unit] 1 last susp).drew fun e w' => e = .returned (.tuple #[]) ∧ w' = (DW w #[unit] 1 last susp).drew := by
  refine calls_of_loneTo fun cs => ?_
  have e : Frame.enter Yba.prog 14 #[.pointer (some ⟨w.heap.size + 1, 0, none⟩)] .normal = (base 14).at ⟨#[.pointer (some ⟨w.heap.size + 1, 0, none⟩), undef, undef, undef, undef, undef, undef, undef, undef, undef], []⟩ [.code (Yba.f14.body.getD .skip)] := by
    simp [Frame.enter, Frame.at, Yba.func14, base, Yba.f14]
    try rfl
  rw [e]
  have hch := DW_chan w #[unit] 1 last susp
  have hld : (DW w #[unit] 1 last susp).cell? ⟨w.heap.size + 1, 3, none⟩ = some (.chan (some w.heap.size)) := by simp only [DW]; go_simp
  generalize DW w #[unit] 1 last susp = W at *
  refine LoneTo.goes (n := 15) ?_
  simp only [Yba.f14, Option.getD_some]
  s_c stepG_seq
  s_c stepG_seq
  s_reg
  s_op
  s_op
  s_op
  s_op
  s_c stepG_region_end
  s_reg
  s_op
  s_c stepG_region_end
  s_c stepG_seq
  s_reg
  s_stop
  refine LoneTo.step (step_lone_select_send_full (c := w.heap.size) (v := unit) (z' := unit) (cap := 1) (buf := #[unit]) (s := 1) (r := 0) (tm := false) (stepG_comm (cases := #[scase w.heap.size unit unit]) (blocking := false) (shape := .select) (w' := W.drew) rfl rfl (by decide) (by simp [go_sem, execOp, scase, Act.eval, unit])) hch (by simp)) ?_
  rw [Frame.finish_at]
  walk_nrm
  refine LoneTo.goes (n := 8) ?_
  s_op
  s_op
  s_c stepG_region_end
  s_c stepG_block
  s_cond false
  s_c stepG_skip
  s_c stepG_inBlock
  s_c stepG_end
  s_stop
  exact LoneTo.done ⟨.returned (.tuple #[]), _, rfl, ⟨rfl, rfl⟩, rfl, rfl, rfl, rfl, _, Yba.func14, by simp [results, Yba.f14, Frame.at]⟩

/-- The constructor of the law, no signal waiting. -/
theorem anew_free (prev : Int) (susp : Bool) (w : World) :
    Calls Yba.prog 5 #[.int .i64 prev, .bool susp, .bool false] w fun e w' => e = .returned (.pointer (some ⟨w.heap.size + 1, 0, none⟩)) ∧ w' = (DW w #[] 0 prev (b32 susp)).drew := by
  go_enter Yba.func5, Yba.ntmps5
  go_wp2_with fail
  refine (newdet _).mono ?_
  rintro e w' ⟨rfl, rfl⟩
  simp only [DW]
  go_wp2_with fail
  refine (store64 ⟨w.heap.size + 1, 2, none⟩ 0 prev _ ?_ ?_).mono ?_
  · go_simp
  · go_simp
  rintro e w' ⟨rfl, rfl⟩
  go_wp2_with fail
  refine (storeB ⟨w.heap.size + 1, 7, none⟩ (.int .u32 0) susp _ ?_ ?_).mono ?_
  · go_simp
  · go_simp
  rintro e w' ⟨rfl, rfl⟩
  go_wp2
  go_ret
  exact ⟨rfl, rfl⟩

set_option maxRecDepth 100000 in
theorem anew_full (prev : Int) (susp : Bool) (w : World) :
    Calls Yba.prog 5 #[.int .i64 prev, .bool susp, .bool true] w fun e w' => e = .returned (.pointer (some ⟨w.heap.size + 1, 0, none⟩)) ∧ w' = (DW w #[unit] 1 prev (b32 susp)).drew := by
  refine calls_of_loneTo fun cs => ?_
  have e : Frame.enter Yba.prog 5 #[.int .i64 prev, .bool susp, .bool true] .normal = (base 5).at ⟨#[.int .i64 prev, .bool susp, .bool true, undef, undef, undef, undef, undef, undef, undef, undef, undef, undef, undef, undef, undef, undef, undef, undef, undef, undef, undef, undef, undef, undef, undef], []⟩ [.code (Yba.f5.body.getD .skip)] := by
    simp [Frame.enter, Frame.at, Yba.func5, base, Yba.f5]
    try rfl
  rw [e]
  refine LoneTo.goes (n := 15) ?_
  simp only [Yba.f5, Option.getD_some]
  s_c stepG_seq
  s_reg
  s_op
  s_c stepG_region_end
  s_c stepG_seq
  s_reg
  s_stop
  refine loneTo_call (f := 10) (vs := #[.int .i64 3, .int .i64 1000]) rfl rfl (by rw [run_call_body rfl Yba.func10 (by kernel_rfl) rfl]; simp [Act.eval]) (newdet w) ?_
  rintro e w' ⟨rfl, rfl⟩
  refine ⟨_, rfl, ?_⟩
  walk_nrm
  refine LoneTo.goes (n := 15) ?_
  s_op
  s_c stepG_region_end
  s_c stepG_seq
  s_reg
  s_op
  s_op
  s_op
  s_op
  s_stop
  refine loneTo_call (f := 11) (vs := #[.pointer (some ⟨w.heap.size + 1, 2, none⟩), .int .i64 prev]) rfl rfl (by rw [run_call_body rfl Yba.func11 (by kernel_rfl) rfl]; simp [Act.eval]) (store64 ⟨w.heap.size + 1, 2, none⟩ 0 prev _ (by simp only [DW]; go_simp) (by simp only [DW]; go_simp)) ?_
  rintro e w' ⟨rfl, rfl⟩
  refine ⟨_, rfl, ?_⟩
  walk_nrm
  refine LoneTo.goes (n := 15) ?_
  s_c stepG_region_end
  s_c stepG_seq
  s_reg
  s_op
  s_op
  s_op
  s_op
  s_stop
  have e2 : (DW w #[] 0 0 0).setCell ⟨w.heap.size + 1, 2, none⟩ (.int .i64 prev) = DW w #[] 0 prev 0 := by simp only [DW]; go_simp
  rw [e2]
  refine loneTo_call (f := 12) (vs := #[.pointer (some ⟨w.heap.size + 1, 7, none⟩), .bool susp]) rfl rfl (by rw [run_call_body rfl Yba.func12 (by kernel_rfl) rfl]; simp [Act.eval]) (storeB ⟨w.heap.size + 1, 7, none⟩ (.int .u32 0) susp _ (by simp only [DW]; go_simp) (by simp only [DW]; go_simp)) ?_
  rintro e w' ⟨rfl, rfl⟩
  refine ⟨_, rfl, ?_⟩
  have e3 : (DW w #[] 0 prev 0).setCell ⟨w.heap.size + 1, 7, none⟩ (.int .u32 (b32 susp)) = DW w #[] 0 prev (b32 susp) := by simp only [DW]; go_simp
  rw [e3]
  walk_nrm
  have hch := DW_chan w #[] 0 prev (b32 susp)
  have hset : (DW w #[] 0 prev (b32 susp)).drew.setChan w.heap.size 1 ((#[] : Array Value).push unit) false (0 + 1) 0 false = (DW w #[unit] 1 prev (b32 susp)).drew := DW_setChan w #[] #[unit] 0 1 prev (b32 susp)
  have hld : (DW w #[] 0 prev (b32 susp)).cell? ⟨w.heap.size + 1, 3, none⟩ = some (.chan (some w.heap.size)) := by simp only [DW]; go_simp
  generalize DW w #[] 0 prev (b32 susp) = W at *
  refine LoneTo.goes (n := 15) ?_
  s_c stepG_region_end
  s_c stepG_seq
  s_c stepG_seq
  s_reg
  s_op
  s_c stepG_region_end
  s_cond true
  s_reg
  s_op
  s_op
  s_op
  s_op
  s_op
  s_stop
  refine LoneTo.step (step_lone_send_room (c := w.heap.size) (cap := 1) (buf := #[]) (s := 0) (r := 0) (tm := false) (stepG_comm (cases := #[scase w.heap.size unit (.tuple #[])]) (blocking := true) (shape := .send) (w' := W.drew) rfl rfl (by decide) (by simp [execOp, scase, Act.eval, unit])) hch (by simp)) ?_
  rw [Frame.finish_at, hset]
  walk_nrm
  refine LoneTo.goes (n := 15) ?_
  s_c stepG_region_end
  s_c stepG_seq
  s_reg
  s_op
  s_op
  s_c stepG_region_end
  s_c stepG_ret'
  s_stop
  exact LoneTo.done ⟨.returned (.pointer (some ⟨w.heap.size + 1, 0, none⟩)), _, rfl, ⟨rfl, rfl⟩, rfl, rfl, rfl, rfl, _, Yba.func5, by simp [results, Yba.f5, Frame.at]⟩

end Go.Proofs.Ybulkcrja
