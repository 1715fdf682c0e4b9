/-
  Seat b4654aF: the law 'LawS4654BDamaged', walked.
-/
import Derived.Test.YbulkcrjaFmtSmall
import Derived.Test.YbulkcrjaFmtIs
import Derived.Deep.RegionHeld
import Derived.Deep.CutRange
namespace Go.Proofs.YbulkcrjaFmt
open Go.RowKit Go.Extern.Stop Go.Stop Go.Extern

theorem Bytes.take {w : World} {ao : Option Addr} {c : Nat} {l : List UInt8} (h : Bytes w ao c l) (k : Nat) (hk : k ≤ l.length) : Bytes w ao c (l.take k) := by
  refine ⟨by rw [List.length_take]; have := h.1; omega, h.2.1, fun hl => ?_⟩
  obtain ⟨g, o, cur, fr, rfl, hb, hc⟩ := h.2.2 (by rintro rfl; simp at hl)
  refine ⟨g, o, cur, fr, rfl, hb, fun j hj => ?_⟩
  rw [List.length_take] at hj
  rw [hc j (by omega), List.getElem_take]

theorem tok_cut (F : Interp) (a : Addr) (ao : Option Addr) (c n k : Nat) (hn : n ≤ 256) (w : World) (hE : Env F a w) (t : Pl.Tok) (l : List UInt8) (hl : Pl.encTok t = l) (hf : t.fine n) (hB : Bytes w ao c l) (hk : k < l.length) :
    Calls Ybaf.prog 9 #[.slice ao k c, .int .i64 n] w fun e w' => ErrPost a w e w' := by
  have h := tok_none F a ao c n (l.take k) hn w hE (hB.take k (by omega)) (Pl.dec_cut n t hf (l.take k) (l.drop k) (by rw [List.take_append_drop, hl]) (by intro e; have := congrArg List.length e; simp at this; omega))
  rw [List.length_take, Nat.min_eq_left (by omega)] at h
  exact h

theorem encNums_le : ∀ xs : List Nat, (∀ x ∈ xs, x < 18446744073709551616) → (Pl.encNums xs).length ≤ 10 * xs.length
  | [], _ => by simp [Pl.encNums]
  | x :: xs, h => by
    have h1 := Lib.uvarint_length64 (h x (by simp))
    have h2 := encNums_le xs (fun y hy => h y (by simp [hy]))
    simp only [Pl.encNums, List.length_append, List.length_cons, List.length_nil]
    omega
theorem encTok_le (t : In) (hs : t.small) (v c : Nat) (hv : v < 18446744073709551616) (hc : c < 18446744073709551616) : (Pl.encTok (t.tok v c)).length ≤ 100000 := by
  have hN := t.N8
  have lz := Lib.uvarint_length64 (Lib.zigzag_lt t.r0 t.r1)
  have lv := Lib.uvarint_length64 hv
  have lc := Lib.uvarint_length64 hc
  have lI := encIdent_le (t.N + 1) (by omega) (by omega) t.P hs.1
  have lJ := encIdent_le (t.N + 1) (by omega) (by omega) t.D hs.2.1
  have ls := Lib.uvarint_length64 (x := t.start % 4611686018427387904) (by omega)
  have ln := encNums_le (t.A.take (t.N + 1)) (fun x hx => t.A64 x (List.mem_of_mem_take hx))
  have ll : (t.A.take (t.N + 1)).length ≤ 256 := by rw [List.length_take]; omega
  have lk := Lib.uvarint_length64 (x := (t.A.take (t.N + 1)).length) (by omega)
  simp only [Pl.encTok, In.tok, Pl.encNumbers, List.length_append, List.length_nil]
  omega
theorem tok_more (F : Interp) (a : Addr) (ao : Option Addr) (c n m : Nat) (x : UInt8) (hn : n ≤ 256) (w : World) (hE : Env F a w) (t : Pl.Tok) (l : List UInt8) (hl : Pl.encTok t = l) (hf : t.fine n) (hB : Bytes w ao c (l ++ [x])) (hm : (l ++ [x]).length = m) :
    Calls Ybaf.prog 9 #[.slice ao m c, .int .i64 n] w fun e w' => ErrPost a w e w' := by
  subst hm hl
  exact tok_none F a ao c n (Pl.encTok t ++ [x]) hn w hE hB (Pl.dec_more n t hf x)

/-- The box holds the token. -/
def Box8 (xb : Nat) (t : In) (po dao aao : Option Addr) (pc dc ac : Nat) (W : World) : Prop :=
    W.cell? ⟨xb, 0, none⟩ = some (.int .u8 t.N) ∧ W.cell? ⟨xb, 1, none⟩ = some (.int .i64 t.round) ∧ W.cell? ⟨xb, 2, none⟩ = some (.int .u64 t.votes) ∧ W.cell? ⟨xb, 3, none⟩ = some (.int .u64 t.census) ∧
    W.cell? ⟨xb, 4, none⟩ = some (.slice po t.P.length pc) ∧ W.cell? ⟨xb, 5, none⟩ = some (.int .u64 t.start) ∧ W.cell? ⟨xb, 6, none⟩ = some (.slice dao t.D.length dc) ∧ W.cell? ⟨xb, 7, none⟩ = some (.slice aao t.A.length ac) ∧ xb < W.heap.size
theorem Box8.of {W : World} {xb : Nat} {t : In} {po dao aao : Option Addr} {pc dc ac : Nat} (h : W.heap[xb]? = some (.cells (t.cells po dao aao pc dc ac) 26 (0, 0))) : Box8 xb t po dao aao pc dc ac W := box8 h

set_option maxHeartbeats 4000000 in
set_option maxRecDepth 100000 in
theorem damaged_c (F : Interp) (a : Addr) (t : In) (po dao aao : Option Addr) (pc dc ac : Nat) (cut extra : Nat) (hcu : cut < 65536) (hex : extra < 256) (w : World) (hG : Ground F a t po dao aao w) :
    Calls Ybaf.prog 5 #[.agg (t.cells po dao aao pc dc ac), .int .u16 cut, .int .u8 extra] w fun e w' => e = .returned (.bool true) ∧ w.grownBy w' none := by
  have hN := t.N8
  have hv := t.v64
  have hc := t.c64
  have hgA := World.grownBy_alloc w (.cells (t.cells po dao aao pc dc ac) 26) none
  have hbx : Hid ((w.alloc (.cells (t.cells po dao aao pc dc ac) 26)).heap[w.heap.size]? = some (.cells (t.cells po dao aao pc dc ac) 26 (0, 0))) := heap_alloc_new w _
  have HG := hide (hG.grown hgA)
  clear hG
  by_cases hs : t.small
  · have HS := hide hs
    clear hs
    simp only [In.cells]
    go_enter Ybaf.func5, Ybaf.ntmps5
    go_wp2_with fail
    refine (small_yes t po dao aao pc dc ac _ (unhide HS)).mono ?_
    rintro e w1 ⟨rfl, hg1⟩
    have HG1 := hide ((unhide HG).grown hg1)
    have hX1 := hide (heap_gb hg1 (unhide hbx))
    have hg01 := gb_none hgA hg1
    clear hg1 hgA hbx HG
    generalize w.heap.size = xb at *
    obtain ⟨p0, p1, p2, p3, p4, p5, p6, p7, lx⟩ := box8 (unhide hX1)
    have hm1 := Nat.mod_lt t.votes (show t.N + 1 + 1 > 0 by omega)
    have hm2 := Nat.mod_lt t.census (show t.N + 1 + 1 > 0 by omega)
    obtain ⟨tk, htk⟩ : ∃ tk, t.tok (t.votes % (t.N + 1 + 1)) (t.census % (t.N + 1 + 1)) = tk := ⟨_, rfl⟩
    have HF : Hid (tk.fine (t.N + 1)) := by
      rw [← htk]
      exact tok_fine t (unhide HS) _ _ (by omega) (by omega)
    have hLen : (Pl.encTok tk).length ≤ 100000 := by
      rw [← htk]
      exact encTok_le t (unhide HS) _ _ (by omega) (by omega)
    have bg := body_g F a t po dao aao pc dc ac ((t.votes : Int).tmod ((t.N : Int) + 1 + 1)) ((t.census : Int).tmod ((t.N : Int) + 1 + 1)) (t.votes % (t.N + 1 + 1)) (t.census % (t.N + 1 + 1)) (by rw [Int.tmod_eq_emod_of_nonneg (by omega)]; simp) (by rw [Int.tmod_eq_emod_of_nonneg (by omega)]; simp) (by omega) (by omega) w1.drew ((unhide HG1).grown (gb_drew _ _)) (unhide HS)
    rw [htk] at bg
    have BG := hide bg
    clear bg htk
    have hw1 : IntKind.i64.wrap ((t.N : Int) + 1 + 1) = (t.N : Int) + 1 + 1 := IntWalk.i64_in _ (by omega)
    have hw2 : IntKind.u64.wrap ((t.N : Int) + 1 + 1) = (t.N : Int) + 1 + 1 := IntWalk.u64_in _ (by omega)
    have hw3 : ¬ (t.N : Int) + 1 + 1 = 0 := by omega
    go_upto_region 4 with fail
    have hS1 : Box8 xb t po dao aao pc dc ac w1.drew := Box8.of (unhide hX1)
    go_cut [7, 8, 9, 10, 11, 12] from 23 to 43 (fun v7 v8 _ _ _ _ wx => ∃ ao c, v7 = .int .i64 ((t.N : Int) + 1) ∧ v8 = .slice ao (Pl.encTok tk).length c ∧ wx.ownsRow w1.heap.size 5 1 (.slice ao (Pl.encTok tk).length c) (Pl.encTok tk).length (Lib.byteCells (Pl.encTok tk)) ∧ Bytes wx ao c (Pl.encTok tk) ∧ w1.grownBy wx none)
    case first =>
      go_region_held (fun W => W.cell? ⟨xb, 0, none⟩ = some (.int .u8 t.N) ∧ W.cell? ⟨xb, 1, none⟩ = some (.int .i64 t.round) ∧ W.cell? ⟨xb, 2, none⟩ = some (.int .u64 t.votes) ∧ W.cell? ⟨xb, 3, none⟩ = some (.int .u64 t.census) ∧
    W.cell? ⟨xb, 4, none⟩ = some (.slice po t.P.length pc) ∧ W.cell? ⟨xb, 5, none⟩ = some (.int .u64 t.start) ∧ W.cell? ⟨xb, 6, none⟩ = some (.slice dao t.D.length dc) ∧ W.cell? ⟨xb, 7, none⟩ = some (.slice aao t.A.length ac) ∧ xb < W.heap.size) (first | exact hS1 | exact hS2)
        ((go_at_call 8; refine (unhide BG).mono ?_; rintro e w2 ⟨ao, c, vp, vd, va, rfl, hgo, hB, _, _, _, hg2⟩; have hS2 := Box8.of (heap_gb (gb_none (gb_drew _ _) hg2) (unhide hX1))))
      all_goals (go_wp2_with fail; go_meet; exact ⟨_, _, rfl, rfl, hgo, hB, gb_none (gb_drew _ _) hg2⟩)
    case rest =>
    obtain ⟨ao, c, rfl, rfl, hgo, hB, hg12⟩ := hcut
    have HG2 := hide ((unhide HG1).grown hg12)
    have hg02 := gb_none hg01 hg12
    have HO := hide hgo
    have HB := hide hB
    clear hgo hB hg12 HG1 hg01 hX1 p0 p1 p2 p3 p4 p5 p6 p7 lx BG hw1 hw2 hw3 hm1 hm2 hS1
    have hpos := Pl.encTok_pos tk
    generalize hL : Pl.encTok tk = L at *
    have HL := hide hL
    clear hL
    obtain ⟨hc1, hc2, -⟩ := unhide HB
    obtain ⟨g, rfl⟩ : ∃ g, ao = some ⟨g, 0, none⟩ := by
      rcases (unhide HO).2 with ⟨_, h0⟩ | ⟨g, _, _, hq, _⟩
      · omega
      · simp only [Value.slice.injEq] at hq
        exact ⟨g, hq.1⟩
    obtain ⟨k, hk, hkl⟩ : ∃ k : Nat, (cut : Int) % (L.length : Int) = (k : Int) ∧ k < L.length := ⟨cut % L.length, by simp, Nat.mod_lt _ hpos⟩
    have hk0 : (0 : Int) ≤ (cut : Int) % (L.length : Int) := by omega
    have hk1 : (cut : Int) % (L.length : Int) ≤ (c : Int) := by omega
    have hk2 : (cut : Int) % (L.length : Int) < (L.length : Int) := by omega
    have hpos' : ¬ (L.length : Int) = 0 := by omega
    go_wp2_with fail
    refine (tok_cut F a _ c (t.N + 1) k (by omega) _ (unhide HG2).env tk L (unhide HL) (unhide HF) (unhide HB) hkl).mono ?_
    rintro e w3 ⟨pb, txt, rfl, hpb, hg3⟩
    have hE3 := (unhide HG2).env.grown hg3
    have hg03 := gb_none hg02 hg3
    have HPB := hide hpb
    have hv3 := hE3.var
    have lv3 := lt_cell hv3
    simp only at lv3
    have HO3 := hide ((unhide HO).kept hg3 (.inr (by simp [Value.ownBlock])))
    clear hpb hg3 HG2 HB hg02 HO
    simp only [zeroTok]
    have hE3 := hide hE3
    go_wp2_with fail
    have hgA := World.grownBy_alloc w3 (.cells zeroTok 35) none
    simp only [zeroTok] at hgA
    refine (is_wrap_same pb 0 a _ (cell_heap (heap_gb hgA (unhide HPB)) 1)).mono ?_
    rintro e w4 ⟨rfl, rfl⟩
    have hE4 := hide ((unhide hE3).grown hgA)
    have hg04 := gb_none hg03 hgA
    have HO4 := hide ((unhide HO3).kept hgA (.inr (by simp [Value.ownBlock])))
    have hs4 := hg04.size
    generalize (w3.alloc _) = w4 at *
    clear HO3 hE3 hg03 hv3 lv3 HPB
    obtain ⟨i5, hi, hz0, hz1, hz2⟩ := info_parts info5
    go_wp2_with (at_builtin; refine wpList_append_own _ rfl _ _ 28 rfl w4.heap.size 5 i5 (.int .u8 0) 1 1 Ybaf.underlying28 hi hz0 hz1 hz2 rfl (by decide) (.slice none 0 0) 0 [] rfl (World.ownsRow_nil _ _ _ _) ⟨g, 0, none⟩ L.length c (Lib.byteCells L) rfl ?c0 ?c1 ?c2 ?c3 ?c4 ?c5 ?_)
    case c0 => simp [Lib.byteCells]
    case c1 => exact fun j u hj => (unhide HO4).cells (g := g) rfl j u hj
    case c2 => intro u hu; simp [Lib.byteCells] at hu; obtain ⟨_, _, rfl⟩ := hu; rfl
    case c3 => unfold maxLen; omega
    case c4 => omega
    case c5 => exact Nat.le_refl _
    intro v5 w5 hown5 hgr5 _
    rw [show Value.ownBlock (.slice none 0 0) = none from rfl] at hgr5
    replace hown5 : w5.ownsRow w4.heap.size 5 1 v5 L.length (Lib.byteCells L) := by simpa using hown5
    have hgx := World.grownBy_alloc w5 (.cells #[.int .u8 extra] 5) none
    have hox := hown5.alloc (.cells #[.int .u8 extra] 5)
    have hs5 := hgr5.size
    go_wp2_with (at_builtin; refine wpList_append_own _ rfl _ _ 28 rfl w4.heap.size 5 i5 (.int .u8 0) 1 1 Ybaf.underlying28 hi hz0 hz1 hz2 rfl (by decide) v5 L.length (Lib.byteCells L) rfl hox ⟨w5.heap.size, 0, none⟩ 1 1 [.int .u8 extra] rfl rfl ?c1 ?c2 ?c3 ?c4 ?c5 ?_)
    case c1 =>
      intro j u hj
      match j, hj with
      | 0, hj => simp at hj; subst hj; simp [Addr.add]
    case c2 => intro u hu; simp at hu; subst hu; rfl
    case c3 => unfold maxLen; omega
    case c4 => omega
    case c5 => simp; omega
    intro v6 w6 hown6 hgr6 _
    have hg46 : w4.grownBy w6 none := gb_trans (gb_none hgr5 hgx) hgr6 (fun k hk => .inr (hox.lt k hk).1)
    have hB6 : w6.ownsRow w4.heap.size 5 1 v6 (L ++ [extra.toUInt8]).length (Lib.byteCells (L ++ [extra.toUInt8])) := by
      rw [Lib.byteCells_snoc L hex, List.length_append, List.length_singleton]
      exact hown6
    obtain ⟨ao6, c6, hv6, hBy6⟩ := bytes_own hB6
    subst hv6
    have HB6 := hide hBy6
    clear hBy6
    have hE6 := hide ((unhide hE4).grown hg46)
    have hg06 := gb_none hg04 hg46
    clear hown6 hgr6 hox hgx hown5 hgr5 hB6 hE4 HO4 hg46 hg04
    go_wp2_with fail
    refine (tok_more F a ao6 c6 (t.N + 1) (L.length + 1) extra.toUInt8 (by omega) _ (unhide hE6) tk L (unhide HL) (unhide HF) (unhide HB6) (by simp)).mono ?_
    rintro e w7 ⟨pb7, txt7, rfl, hpb7, hg7⟩
    have hE7 := (unhide hE6).grown hg7
    have hg07 := gb_none hg06 hg7
    have HPB7 := hide hpb7
    have hv7 := hE7.var
    have lv7 := lt_cell hv7
    simp only at lv7
    have hE7 := hide hE7
    clear hpb7 hg7 hE6 HB6 hg06
    simp only [zeroTok]
    go_wp2_with fail
    refine (is_wrap_same pb7 0 a _ (cell_heap (unhide HPB7) 1)).mono ?_
    rintro e w8 ⟨rfl, rfl⟩
    go_wp2
    go_ret
    exact ⟨rfl, hg07⟩
  · have HS := hide hs
    clear hs
    simp only [In.cells]
    go_enter Ybaf.func5, Ybaf.ntmps5
    go_wp2_with fail
    refine (small_no t po dao aao pc dc ac _ (unhide HS)).mono ?_
    rintro e w1 ⟨rfl, hg1⟩
    go_wp2
    go_ret
    exact ⟨rfl, gb_none hgA hg1⟩
end Go.Proofs.YbulkcrjaFmt
