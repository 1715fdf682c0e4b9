/-
  Seat b4654a: '(*detector).heard' and '(*detector).lastHeard', as contracts.
-/
import Derived.Test.YbulkcrjaBits
namespace Go.Proofs.Ybulkcrja
open Go.RowKit Go.Conc

theorem hide {p : Prop} (h : p) : Hid p := h
theorem unhide {p : Prop} (h : Hid p) : p := h

/-- What lies in the channel behind 'heard'. -/
def bufOf (b : Bool) : Array Value := if b then #[unit] else #[]
def cnt (b : Bool) : Nat := if b then 1 else 0

theorem b32_ne (b : Bool) : (b32 b != 0) = b := by cases b <;> rfl

theorem signal_any (w : World) (f : Bool) (last susp : Int) :
    Calls Yba.prog 14 #[.pointer (some ⟨w.heap.size + 1, 0, none⟩)] (DW w (bufOf f) (cnt f) last susp).drew fun e w' => e = .returned (.tuple #[]) ∧ w' = (DW w (bufOf true) (cnt true) last susp).drew := by
  cases f
  · exact signal_room w last susp
  · exact signal_full w last susp

theorem DW_swap (w : World) (buf : Array Value) (s : Nat) (prev x : Int) (susp : Int) :
    (DW w buf s prev susp).drew.setCell ⟨w.heap.size + 1, 2, none⟩ (.int .i64 x) = (DW w buf s x susp).drew := by simp only [DW]; go_simp
theorem DW_last (w : World) (buf : Array Value) (s : Nat) (prev : Int) (susp : Int) :
    (DW w buf s prev susp).cell? ⟨w.heap.size + 1, 2, none⟩ = some (.int .i64 prev) := by simp only [DW]; go_simp
theorem DW_last_free (w : World) (buf : Array Value) (s : Nat) (prev : Int) (susp : Int) :
    (DW w buf s prev susp).frozen? ⟨w.heap.size + 1, 2, none⟩ = false := by simp only [DW]; go_simp
theorem DW_susp (w : World) (buf : Array Value) (s : Nat) (prev : Int) (susp : Int) :
    (DW w buf s prev susp).cell? ⟨w.heap.size + 1, 7, none⟩ = some (.int .u32 susp) := by simp only [DW]; go_simp

theorem heard_false (w : World) (prev now : Int) (susp f : Bool) :
    Calls Yba.prog 6 #[.pointer (some ⟨w.heap.size + 1, 0, none⟩), .int .i64 now, .bool false] (DW w (bufOf f) (cnt f) prev (b32 susp)).drew fun e w' =>
      e = .returned (.tuple #[]) ∧ w' = (DW w (bufOf (f || (susp || turns prev false))) (cnt (f || (susp || turns prev false))) (atv now false) (b32 susp)).drew := by
  have ht := turn_bit prev now false
  cases hT : (susp || turns prev false)
  · have hT' := hide hT
    clear hT
    have ht' := hide ht
    clear ht
    go_enter Yba.func6, Yba.ntmps6
    go_wp2_with fail
    rw [show wrap64 (now * 2) = atv now false from by simp [atv, b32]]
    refine (swap64 ⟨w.heap.size + 1, 2, none⟩ prev _ _ (by exact DW_last _ _ _ _ _) (by exact DW_last_free _ _ _ _ _)).mono ?_
    rintro e w' ⟨rfl, rfl⟩
    rw [DW_swap]
    go_wp2_with fail
    refine (loadB ⟨w.heap.size + 1, 7, none⟩ (b32 susp) _ (by exact DW_susp _ _ _ _ _)).mono ?_
    rintro e w' ⟨rfl, rfl⟩
    rw [b32_ne]
    obtain ⟨rfl, hT2⟩ : susp = false ∧ turns prev false = false := by have := unhide hT'; simpa using this
    have ht := unhide ht'
    rw [hT2] at ht
    clear hT'
    go_wp2
    go_end0
    exact ⟨rfl, by simp⟩
  · have hT' := hide hT
    clear hT
    have ht' := hide ht
    clear ht
    go_enter Yba.func6, Yba.ntmps6
    go_wp2_with fail
    rw [show wrap64 (now * 2) = atv now false from by simp [atv, b32]]
    refine (swap64 ⟨w.heap.size + 1, 2, none⟩ prev _ _ (by exact DW_last _ _ _ _ _) (by exact DW_last_free _ _ _ _ _)).mono ?_
    rintro e w' ⟨rfl, rfl⟩
    rw [DW_swap]
    go_wp2_with fail
    refine (loadB ⟨w.heap.size + 1, 7, none⟩ (b32 susp) _ (by exact DW_susp _ _ _ _ _)).mono ?_
    rintro e w' ⟨rfl, rfl⟩
    rw [b32_ne]
    cases susp
    · have hT2 : turns prev false = true := by have := unhide hT'; simpa using this
      have ht := unhide ht'
      rw [hT2] at ht
      clear hT'
      go_wp2_with fail
      refine (signal_any w f (atv now false) (b32 false)).mono ?_
      rintro e w' ⟨rfl, rfl⟩
      go_wp2
      go_end0
      exact ⟨rfl, by simp⟩
    · go_wp2_with fail
      refine (signal_any w f (atv now false) (b32 true)).mono ?_
      rintro e w' ⟨rfl, rfl⟩
      go_wp2
      go_end0
      exact ⟨rfl, by simp⟩

theorem heard_true (w : World) (prev now : Int) (susp f : Bool) :
    Calls Yba.prog 6 #[.pointer (some ⟨w.heap.size + 1, 0, none⟩), .int .i64 now, .bool true] (DW w (bufOf f) (cnt f) prev (b32 susp)).drew fun e w' =>
      e = .returned (.tuple #[]) ∧ w' = (DW w (bufOf (f || (susp || turns prev true))) (cnt (f || (susp || turns prev true))) (atv now true) (b32 susp)).drew := by
  have ht := turn_bit prev now true
  cases hT : (susp || turns prev true)
  · have hT' := hide hT
    clear hT
    have ht' := hide ht
    clear ht
    go_enter Yba.func6, Yba.ntmps6
    go_wp2_with fail
    rw [or1 now, show wrap64 (now * 2 + 1) = atv now true from rfl]
    refine (swap64 ⟨w.heap.size + 1, 2, none⟩ prev _ _ (by exact DW_last _ _ _ _ _) (by exact DW_last_free _ _ _ _ _)).mono ?_
    rintro e w' ⟨rfl, rfl⟩
    rw [DW_swap]
    go_wp2_with fail
    refine (loadB ⟨w.heap.size + 1, 7, none⟩ (b32 susp) _ (by exact DW_susp _ _ _ _ _)).mono ?_
    rintro e w' ⟨rfl, rfl⟩
    rw [b32_ne]
    obtain ⟨rfl, hT2⟩ : susp = false ∧ turns prev true = false := by have := unhide hT'; simpa using this
    have ht := unhide ht'
    rw [hT2] at ht
    clear hT'
    go_wp2
    go_end0
    exact ⟨rfl, by simp⟩
  · have hT' := hide hT
    clear hT
    have ht' := hide ht
    clear ht
    go_enter Yba.func6, Yba.ntmps6
    go_wp2_with fail
    rw [or1 now, show wrap64 (now * 2 + 1) = atv now true from rfl]
    refine (swap64 ⟨w.heap.size + 1, 2, none⟩ prev _ _ (by exact DW_last _ _ _ _ _) (by exact DW_last_free _ _ _ _ _)).mono ?_
    rintro e w' ⟨rfl, rfl⟩
    rw [DW_swap]
    go_wp2_with fail
    refine (loadB ⟨w.heap.size + 1, 7, none⟩ (b32 susp) _ (by exact DW_susp _ _ _ _ _)).mono ?_
    rintro e w' ⟨rfl, rfl⟩
    rw [b32_ne]
    cases susp
    · have hT2 : turns prev true = true := by have := unhide hT'; simpa using this
      have ht := unhide ht'
      rw [hT2] at ht
      clear hT'
      go_wp2_with fail
      refine (signal_any w f (atv now true) (b32 false)).mono ?_
      rintro e w' ⟨rfl, rfl⟩
      go_wp2
      go_end0
      exact ⟨rfl, by simp⟩
    · go_wp2_with fail
      refine (signal_any w f (atv now true) (b32 true)).mono ?_
      rintro e w' ⟨rfl, rfl⟩
      go_wp2
      go_end0
      exact ⟨rfl, by simp⟩

theorem heard_any (w : World) (prev now : Int) (quiet susp f : Bool) :
    Calls Yba.prog 6 #[.pointer (some ⟨w.heap.size + 1, 0, none⟩), .int .i64 now, .bool quiet] (DW w (bufOf f) (cnt f) prev (b32 susp)).drew fun e w' =>
      e = .returned (.tuple #[]) ∧ w' = (DW w (bufOf (f || (susp || turns prev quiet))) (cnt (f || (susp || turns prev quiet))) (atv now quiet) (b32 susp)).drew := by
  cases quiet
  · exact heard_false w prev now susp f
  · exact heard_true w prev now susp f

theorem anew_any (prev : Int) (susp f : Bool) (w : World) :
    Calls Yba.prog 5 #[.int .i64 prev, .bool susp, .bool f] w fun e w' => e = .returned (.pointer (some ⟨w.heap.size + 1, 0, none⟩)) ∧ w' = (DW w (bufOf f) (cnt f) prev (b32 susp)).drew := by
  cases f
  · exact anew_free prev susp w
  · exact anew_full prev susp w

end Go.Proofs.Ybulkcrja
