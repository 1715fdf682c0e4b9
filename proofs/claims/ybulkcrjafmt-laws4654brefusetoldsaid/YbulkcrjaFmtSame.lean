/-
  Seat b4654aF: 'zzs4654bsame' of two slices that hold the same messages, 'zzs4654bsmall', as contracts.
-/
import Derived.Test.YbulkcrjaFmtBody
import Derived.Deep.QuietTactic
import Derived.BigQuiet
namespace Go.Proofs.YbulkcrjaFmt
open Go.RowKit

/-- A message's cells off three numbers. -/
def cell3 (m : Nat × Nat × Nat) : List Value := [.int .i64 m.1, .int .u64 m.2.1, .int .u64 m.2.2, .slice none 0 0]

theorem runCells_list (r : Pl.Run) : ∀ j, ∃ ms : List (Nat × Nat × Nat), ms.length = j ∧ runCells r j = ms.flatMap cell3
  | 0 => ⟨[], rfl, rfl⟩
  | j + 1 => by
    obtain ⟨ms, h1, h2⟩ := runCells_list r j
    refine ⟨ms ++ [(r.s, r.inc, r.first + j)], by simp [h1], ?_⟩
    rw [runCells, h2, List.flatMap_append]
    simp [cell3, msgCell]
theorem msgCells_list : ∀ rs : List Pl.Run, ∃ ms : List (Nat × Nat × Nat), ms.length = Pl.total rs ∧ msgCells rs = ms.flatMap cell3
  | [] => ⟨[], rfl, rfl⟩
  | r :: rs => by
    obtain ⟨m1, h1, h2⟩ := runCells_list r r.len
    obtain ⟨m2, h3, h4⟩ := msgCells_list rs
    refine ⟨m1 ++ m2, by simp [h1, h3, Pl.total], ?_⟩
    rw [msgCells, h2, h4, List.flatMap_append]

theorem flat_at : ∀ (ms : List (Nat × Nat × Nat)) (i : Nat) (h : i < ms.length), (ms.flatMap cell3)[i * 4]? = some (.int .i64 (ms[i]).1) ∧ (ms.flatMap cell3)[i * 4 + 1]? = some (.int .u64 (ms[i]).2.1) ∧
    (ms.flatMap cell3)[i * 4 + 2]? = some (.int .u64 (ms[i]).2.2) ∧ (ms.flatMap cell3)[i * 4 + 3]? = some (.slice none 0 0)
  | [], i, h => by simp at h
  | m :: ms, 0, _ => by simp [cell3]
  | m :: ms, i + 1, h => by
    have ih := flat_at ms i (by simpa using h)
    have e : ∀ k, (i + 1) * 4 + k = (i * 4 + k) + 4 := fun k => by omega
    have e0 : (i + 1) * 4 = i * 4 + 4 := by omega
    have hc : ∀ q, ((m :: ms).flatMap cell3)[q + 4]? = (ms.flatMap cell3)[q]? := fun q => by
      rw [List.flatMap_cons]
      simp [cell3]
    rw [e 1, e 2, e 3, e0, hc, hc, hc, hc]
    exact ih

/-- What a row of messages holds, cell by cell. -/
theorem own_msgs {w : World} {base g n c : Nat} {ms : List (Nat × Nat × Nat)} (h : w.ownsRow base 95 4 (.slice (some ⟨g, 0, none⟩) n c) n (ms.flatMap cell3)) (hn : ms.length = n) (i : Nat) (hi : i < n) :
    w.cell? ⟨g, i * 4, none⟩ = some (.int .i64 (ms[i]'(by omega)).1) ∧ w.cell? ⟨g, i * 4 + 1, none⟩ = some (.int .u64 (ms[i]'(by omega)).2.1) ∧ w.cell? ⟨g, i * 4 + 2, none⟩ = some (.int .u64 (ms[i]'(by omega)).2.2) ∧ w.cell? ⟨g, i * 4 + 3, none⟩ = some (.slice none 0 0) := by
  have hc := h.cells (g := g) rfl
  obtain ⟨h0, h1, h2, h3⟩ := flat_at ms i (by omega)
  have ha : ∀ k, (⟨g, 0, none⟩ : Addr).add k = ⟨g, k, none⟩ := fun k => by rw [Addr.add_lit, Nat.zero_add]
  refine ⟨?_, ?_, ?_, ?_⟩
  · have := hc _ _ h0; rw [ha] at this; exact this
  · have := hc _ _ h1; rw [ha] at this; exact this
  · have := hc _ _ h2; rw [ha] at this; exact this
  · have := hc _ _ h3; rw [ha] at this; exact this

set_option maxHeartbeats 2000000 in
set_option maxRecDepth 100000 in
theorem same_rows (ga gb n ca cb ba bb : Nat) (ms : List (Nat × Nat × Nat)) (hl : ms.length = n) (hn : n ≤ 4611686018427387904) (w : World) (ha : w.ownsRow ba 95 4 (.slice (some ⟨ga, 0, none⟩) n ca) n (ms.flatMap cell3)) (hb : w.ownsRow bb 95 4 (.slice (some ⟨gb, 0, none⟩) n cb) n (ms.flatMap cell3)) :
    Calls Ybaf.prog 10 #[.slice (some ⟨ga, 0, none⟩) n ca, .slice (some ⟨gb, 0, none⟩) n cb] w fun e w' => e = .returned (.bool true) ∧ w.grownBy w' none := by
  have HL := hide hl
  clear hl
  go_enter Ybaf.func10, Ybaf.ntmps10
  go_wp2
  go_loopw [5] (fun vi wr => ∃ i : Nat, i ≤ n ∧ vi = .int .i64 i ∧ w.grownBy wr none)
    (fun vi _ => n - (intOf vi).toNat)
  case atStart => exact ⟨0, Nat.zero_le _, rfl, World.grownBy.refl _ _⟩
  case round =>
    obtain ⟨i, hin, rfl, hg⟩ := hrel
    by_cases hlt : i < n
    · have hii : (i : Int) < (n : Int) := by omega
      obtain ⟨a0, a1, a2, a3⟩ := own_msgs (ha.kept hg (.inr (by simp [Value.ownBlock]))) (unhide HL) i hlt
      obtain ⟨b0, b1, b2, b3⟩ := own_msgs (hb.kept hg (.inr (by simp [Value.ownBlock]))) (unhide HL) i hlt
      obtain ⟨⟨x0, x1, x2⟩, hx⟩ : ∃ x, ms[i]'(by have := unhide HL; omega) = x := ⟨_, rfl⟩
      rw [hx] at a0 a1 a2 b0 b1 b2
      simp only at a0 a1 a2 b0 b1 b2
      have la := lt_cell a0
      have lb := lt_cell b0
      simp only at la lb
      clear hx
      go_wp2
      go_quiet (fail)
      go_wp2
      exact ⟨⟨i + 1, by omega, by go_num, gb_none hg ⟨rfl, rfl, rfl, Nat.le_refl _, fun _ _ _ => rfl⟩⟩, by simp [intOf]; omega⟩
    · have hii : ¬ (i : Int) < (n : Int) := by omega
      go_wp2
      go_ret
      exact ⟨rfl, hg⟩
end Go.Proofs.YbulkcrjaFmt
