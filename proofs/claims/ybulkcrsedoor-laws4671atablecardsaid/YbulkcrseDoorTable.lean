/-
  Seat b4671aD: the law's walk, byte by byte.
-/
import Derived.Test.YbulkcrseDoorRows
import Derived.WalkKit
namespace Go.Proofs.YbulkcrseDoor
open Go.RowKit

abbrev s0 : ByteArray := ⟨#[]⟩
abbrev s1 : ByteArray := ⟨#[112, 111, 114, 116, 95, 110, 111, 116, 95, 101, 120, 112, 111, 115, 101, 100]⟩
abbrev s2 : ByteArray := ⟨#[99, 111, 110, 110, 101, 99, 116, 105, 111, 110, 95, 114, 101, 102, 117, 115, 101, 100]⟩
abbrev s3 : ByteArray := ⟨#[110, 111, 116, 95, 97, 108, 108, 111, 119, 101, 100]⟩

/-- What the table's second column holds. -/
structure Tab (W : World) : Prop where
  c0 : W.cell? ⟨0, 1, none⟩ = some (.string s0)
  c1 : W.cell? ⟨0, 3, none⟩ = some (.string s1)
  c2 : W.cell? ⟨0, 5, none⟩ = some (.string s2)
  c3 : W.cell? ⟨0, 7, none⟩ = some (.string s3)

set_option maxRecDepth 100000 in
theorem fail_big (b : Int) (h1 : 4 ≤ b) (h2 : b < 256) (W : World) : Calls Ybad.prog 4 #[.int .u8 b] W fun e w' => e = .returned (.string s2) ∧ w' = W := by
  go_enter Ybad.func4, Ybad.ntmps4
  have h : ¬ b < 4 := by omega
  go_wp2
  go_ret
  exact ⟨rfl, rfl⟩
set_option maxRecDepth 100000 in
theorem model_big (b : Int) (h1 : 4 ≤ b) (h2 : b < 256) (W : World) : Calls Ybad.prog 5 #[.int .u8 b] W fun e w' => e = .returned (.string s2) ∧ w' = W := by
  have k0 : ¬ b = 0 := by omega
  have k1 : ¬ b = 1 := by omega
  have k2 : ¬ b = 2 := by omega
  have k3 : ¬ b = 3 := by omega
  go_enter Ybad.func5, Ybad.ntmps5
  go_wp2
  go_ret
  exact ⟨rfl, rfl⟩
set_option maxRecDepth 100000 in
theorem fail_0 (W : World) (h : Tab W) : Calls Ybad.prog 4 #[.int .u8 0] W fun e w' => e = .returned (.string s0) ∧ w' = W := by
  have c := h.c0
  go_enter Ybad.func4, Ybad.ntmps4
  go_wp2
  go_ret
  exact ⟨rfl, rfl⟩
set_option maxRecDepth 100000 in
theorem fail_1 (W : World) (h : Tab W) : Calls Ybad.prog 4 #[.int .u8 1] W fun e w' => e = .returned (.string s1) ∧ w' = W := by
  have c := h.c1
  go_enter Ybad.func4, Ybad.ntmps4
  go_wp2
  go_ret
  exact ⟨rfl, rfl⟩
set_option maxRecDepth 100000 in
theorem fail_2 (W : World) (h : Tab W) : Calls Ybad.prog 4 #[.int .u8 2] W fun e w' => e = .returned (.string s2) ∧ w' = W := by
  have c := h.c2
  go_enter Ybad.func4, Ybad.ntmps4
  go_wp2
  go_ret
  exact ⟨rfl, rfl⟩
set_option maxRecDepth 100000 in
theorem fail_3 (W : World) (h : Tab W) : Calls Ybad.prog 4 #[.int .u8 3] W fun e w' => e = .returned (.string s3) ∧ w' = W := by
  have c := h.c3
  go_enter Ybad.func4, Ybad.ntmps4
  go_wp2
  go_ret
  exact ⟨rfl, rfl⟩
set_option maxRecDepth 100000 in
theorem model_0 (W : World) : Calls Ybad.prog 5 #[.int .u8 0] W fun e w' => e = .returned (.string s0) ∧ w' = W := by
  go_enter Ybad.func5, Ybad.ntmps5
  go_wp2
  go_ret
  exact ⟨rfl, rfl⟩
set_option maxRecDepth 100000 in
theorem model_1 (W : World) : Calls Ybad.prog 5 #[.int .u8 1] W fun e w' => e = .returned (.string s1) ∧ w' = W := by
  go_enter Ybad.func5, Ybad.ntmps5
  go_wp2
  go_ret
  exact ⟨rfl, rfl⟩
set_option maxRecDepth 100000 in
theorem model_2 (W : World) : Calls Ybad.prog 5 #[.int .u8 2] W fun e w' => e = .returned (.string s2) ∧ w' = W := by
  go_enter Ybad.func5, Ybad.ntmps5
  go_wp2
  go_ret
  exact ⟨rfl, rfl⟩
set_option maxRecDepth 100000 in
theorem model_3 (W : World) : Calls Ybad.prog 5 #[.int .u8 3] W fun e w' => e = .returned (.string s3) ∧ w' = W := by
  go_enter Ybad.func5, Ybad.ntmps5
  go_wp2
  go_ret
  exact ⟨rfl, rfl⟩

set_option maxRecDepth 100000 in
theorem law_0 (W : World) (h : Tab W) : Calls Ybad.prog 3 #[.int .u8 0] W fun e w' => e = .returned (.bool true) ∧ w' = W := by
  have H := fail_0 W h
  go_enter Ybad.func3, Ybad.ntmps3
  go_wp2_with fail
  refine H.mono ?_
  rintro e w1 ⟨rfl, rfl⟩
  go_wp2_with fail
  refine (model_0 _).mono ?_
  rintro e w1 ⟨rfl, rfl⟩
  go_wp2
  go_ret
  exact ⟨rfl, rfl⟩
set_option maxRecDepth 100000 in
theorem law_1 (W : World) (h : Tab W) : Calls Ybad.prog 3 #[.int .u8 1] W fun e w' => e = .returned (.bool true) ∧ w' = W := by
  have H := fail_1 W h
  go_enter Ybad.func3, Ybad.ntmps3
  go_wp2_with fail
  refine H.mono ?_
  rintro e w1 ⟨rfl, rfl⟩
  go_wp2_with fail
  refine (model_1 _).mono ?_
  rintro e w1 ⟨rfl, rfl⟩
  go_wp2
  go_ret
  exact ⟨rfl, rfl⟩
set_option maxRecDepth 100000 in
theorem law_2 (W : World) (h : Tab W) : Calls Ybad.prog 3 #[.int .u8 2] W fun e w' => e = .returned (.bool true) ∧ w' = W := by
  have H := fail_2 W h
  go_enter Ybad.func3, Ybad.ntmps3
  go_wp2_with fail
  refine H.mono ?_
  rintro e w1 ⟨rfl, rfl⟩
  go_wp2_with fail
  refine (model_2 _).mono ?_
  rintro e w1 ⟨rfl, rfl⟩
  go_wp2
  go_ret
  exact ⟨rfl, rfl⟩
set_option maxRecDepth 100000 in
theorem law_3 (W : World) (h : Tab W) : Calls Ybad.prog 3 #[.int .u8 3] W fun e w' => e = .returned (.bool true) ∧ w' = W := by
  have H := fail_3 W h
  go_enter Ybad.func3, Ybad.ntmps3
  go_wp2_with fail
  refine H.mono ?_
  rintro e w1 ⟨rfl, rfl⟩
  go_wp2_with fail
  refine (model_3 _).mono ?_
  rintro e w1 ⟨rfl, rfl⟩
  go_wp2
  go_ret
  exact ⟨rfl, rfl⟩
set_option maxRecDepth 100000 in
theorem law_big (b : Int) (h1 : 4 ≤ b) (h2 : b < 256) (W : World) : Calls Ybad.prog 3 #[.int .u8 b] W fun e w' => e = .returned (.bool true) ∧ w' = W := by
  have k0 : ¬ b = 0 := by omega
  have H := fail_big b h1 h2 W
  have M := model_big b h1 h2 W
  go_enter Ybad.func3, Ybad.ntmps3
  go_wp2_with fail
  refine H.mono ?_
  rintro e w1 ⟨rfl, rfl⟩
  go_wp2_with fail
  refine M.mono ?_
  rintro e w1 ⟨rfl, rfl⟩
  go_wp2
  go_ret
  exact ⟨by simp [k0], rfl⟩

theorem law_c (b : Int) (h0 : 0 ≤ b) (h2 : b < 256) (W : World) (h : Tab W) : Calls Ybad.prog 3 #[.int .u8 b] W fun e w' => e = .returned (.bool true) ∧ w' = W := by
  by_cases h4 : 4 ≤ b
  · exact law_big b h4 h2 W
  · have : b = 0 ∨ b = 1 ∨ b = 2 ∨ b = 3 := by omega
    rcases this with rfl | rfl | rfl | rfl
    · exact law_0 W h
    · exact law_1 W h
    · exact law_2 W h
    · exact law_3 W h
end Go.Proofs.YbulkcrseDoor
