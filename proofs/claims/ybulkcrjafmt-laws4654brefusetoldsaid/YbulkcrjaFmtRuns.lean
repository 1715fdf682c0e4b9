/-
  Seat b4654aF: the encoder's 'zzs4654bruns', as a contract.
-/
import Derived.Test.YbulkcrjaFmtApp
namespace Go.Proofs.YbulkcrjaFmt
open Go.RowKit

/-- A run as the law is handed it. -/
structure Raw where
  snd : Nat
  inc : Nat
  first : Nat
  len : Nat
  s16 : snd < 65536
  i64 : inc < 18446744073709551616
  f64 : first < 18446744073709551616
  l8 : len < 256

/-- What the encoder makes of it. -/
def Raw.enc (n : Nat) (r : Raw) : Pl.Run := ⟨r.snd % n, r.inc, r.first % 1099511627776 + 1, r.len % 4⟩

/-- Such runs lie at ao, below B. -/
def RawAt (B : Nat) (w : World) (ao : Option Addr) (L : List Raw) : Prop :=
  L ≠ [] → ∃ g o, ao = some ⟨g, o, none⟩ ∧ g < B ∧ ∀ i (hi : i < L.length), w.cell? ⟨g, o + i * 4, none⟩ = some (.int .u16 (L[i]).snd) ∧ w.cell? ⟨g, o + i * 4 + 1, none⟩ = some (.int .u64 (L[i]).inc) ∧
    w.cell? ⟨g, o + i * 4 + 1 + 1, none⟩ = some (.int .u64 (L[i]).first) ∧ w.cell? ⟨g, o + i * 4 + 1 + 1 + 1, none⟩ = some (.int .u8 (L[i]).len)

theorem RawAt.kept {B : Nat} {w w' : World} {ao : Option Addr} {L : List Raw} (h : RawAt B w ao L) (hk : Kp B w w') : RawAt B w' ao L := by
  intro hl
  obtain ⟨g, o, rfl, hg, hc⟩ := h hl
  refine ⟨g, o, rfl, hg, fun i hi => ?_⟩
  obtain ⟨h1, h2, h3, h4⟩ := hc i hi
  exact ⟨hk.cell h1 hg, hk.cell h2 hg, hk.cell h3 hg, hk.cell h4 hg⟩

theorem encRuns_snoc (rs : List Pl.Run) (r : Pl.Run) : Pl.encRuns (rs ++ [r]) = Pl.encRuns rs ++ Pl.encRun r := by
  induction rs with
  | nil => simp [Pl.encRuns]
  | cons x rs ih => simp only [List.cons_append, Pl.encRuns, ih]; simp

theorem encRun_le (n : Nat) (r : Raw) (hn : n ≤ 256) (hn0 : 0 < n) : (Pl.encRun (r.enc n)).length ≤ 40 := by
  have h1 := Lib.uvarint_length64 (x := (r.enc n).s) (by have := Nat.mod_lt r.snd hn0; show r.snd % n < _; omega)
  have h2 := Lib.uvarint_length64 (x := (r.enc n).inc) r.i64
  have h3 := Lib.uvarint_length64 (x := (r.enc n).first) (by show r.first % 1099511627776 + 1 < _; omega)
  have h4 := Lib.uvarint_length64 (x := (r.enc n).len) (by show r.len % 4 < _; omega)
  simp only [Pl.encRun, List.length_append, List.length_nil]
  omega

theorem take_snoc {α : Type} (L : List α) (i : Nat) (h : i < L.length) : L.take (i + 1) = L.take i ++ [L[i]] := by
  rw [List.take_succ_eq_append_getElem h]

theorem box_ld {W : World} {xb snd inc first len : Nat} (h : W.heap[xb]? = some (.cells #[.int .u16 snd, .int .u64 inc, .int .u64 first, .int .u8 len] 105 (0, 0))) : W.cell? ⟨xb, 1, none⟩ = some (.int .u64 inc) ∧ xb < W.heap.size := ⟨by rw [cell_heap h]; rfl, lt_heap h⟩

/-- AppendUvarint behind bytes that are known. -/
theorem au_b (B m x : Nat) (hx : x < 18446744073709551616) (sv : Value) (xs : List Value) (pre : List UInt8) (w : World) (hown : w.ownsRow B 5 1 sv (m + pre.length) (xs ++ Lib.byteCells pre)) (hBw : B ≤ w.heap.size) (hlim : m + pre.length + 10 ≤ 140737488355328) :
    Calls Ybaf.prog 14 #[sv, .int .u64 x] w fun e w' => ∃ v', e = .returned v' ∧ w'.ownsRow B 5 1 v' (m + (pre ++ Lib.uvarint x).length) (xs ++ Lib.byteCells (pre ++ Lib.uvarint x)) ∧ Kp B w w' := by
  refine (au_c B (m + pre.length) x hx sv _ w hown hBw hlim).mono ?_
  rintro e w' ⟨v', rfl, h1, h2⟩
  refine ⟨v', rfl, ?_, h2⟩
  rw [List.length_append, Lib.byteCells_append, ← List.append_assoc, ← Nat.add_assoc]
  exact h1

set_option maxHeartbeats 4000000 in
set_option maxRecDepth 100000 in
theorem runs_c (B m n : Nat) (hn : n ≤ 256) (hn0 : 0 < n) (sv : Value) (xs : List Value) (ao : Option Addr) (c : Nat) (L : List Raw) (hL : L.length ≤ 256) (w : World) (hown : w.ownsRow B 5 1 sv m xs) (hBw : B ≤ w.heap.size) (hlim : m ≤ 1099511627776) (hR : RawAt B w ao L) :
    Calls Ybaf.prog 15 #[sv, .slice ao L.length c, .int .i64 n] w fun e w' => ∃ vb vms, e = .returned (.tuple #[vb, vms]) ∧
      w'.ownsRow B 5 1 vb (m + (Pl.encIdent (L.map (Raw.enc n))).length) (xs ++ Lib.byteCells (Pl.encIdent (L.map (Raw.enc n)))) ∧ w'.ownsRow w.heap.size 95 4 vms (Pl.total (L.map (Raw.enc n))) (msgCells (L.map (Raw.enc n))) ∧ Kp B w w' := by
  obtain ⟨i95, hi, hz0, hz1, hz2⟩ := info_parts info95
  have hlen := Lib.uvarint_length64 (x := L.length) (by omega)
  have HR := hide hR
  clear hR
  go_enter Ybaf.func15, Ybaf.ntmps15
  go_wp2_with fail
  refine (au_c B m L.length (by omega) sv xs _ hown hBw (by omega)).mono ?_
  rintro e w1 ⟨vb0, rfl, hown1, hk1⟩
  go_wp2_with fail
  go_loopw [0, 8, 9] (fun vb vms vi wr => ∃ i : Nat, i ≤ L.length ∧ vi = .int .i64 i ∧ wr.ownsRow B 5 1 vb (m + (Lib.uvarint L.length ++ Pl.encRuns ((L.take i).map (Raw.enc n))).length) (xs ++ Lib.byteCells (Lib.uvarint L.length ++ Pl.encRuns ((L.take i).map (Raw.enc n)))) ∧ (Lib.uvarint L.length ++ Pl.encRuns ((L.take i).map (Raw.enc n))).length ≤ 10 + 40 * i ∧
      wr.ownsRow w.heap.size 95 4 vms (Pl.total ((L.take i).map (Raw.enc n))) (msgCells ((L.take i).map (Raw.enc n))) ∧ Pl.total ((L.take i).map (Raw.enc n)) ≤ 3 * i ∧ Kp B w wr)
    (fun _ _ vi _ => L.length - (intOf vi).toNat)
  case atStart => exact ⟨0, Nat.zero_le _, rfl, by simpa [Pl.encRuns] using hown1, by simpa [Pl.encRuns] using hlen, World.ownsRow_nil _ _ _ _, Nat.le_refl _, hk1⟩
  case round =>
    obtain ⟨i, hiL, rfl, hb, hbl, hms, hmt, hk⟩ := hrel
    clear hown1 hk1
    by_cases hlt : i < L.length
    · have hii : (i : Int) < (L.length : Int) := by omega
      obtain ⟨g, o, rfl, hgB, hcells⟩ := (unhide HR).kept hk (by intro e; rw [e] at hlt; simp at hlt)
      obtain ⟨c0, c1, c2, c3⟩ := hcells i hlt
      have hsn := take_snoc L i hlt
      obtain ⟨⟨snd, inc, first, len, s16, i64, f64, l8⟩, hr⟩ : ∃ r, L[i] = r := ⟨_, rfl⟩
      rw [hr] at c0 c1 c2 c3 hsn
      simp only at c0 c1 c2 c3
      obtain ⟨q, hq, hqn⟩ : ∃ q : Nat, (snd : Int) % (n : Int) = (q : Int) ∧ snd % n = q := ⟨snd % n, by simp, rfl⟩
      obtain ⟨f, hf, hfn⟩ : ∃ f : Nat, (first : Int) % 1099511627776 = (f : Int) ∧ first % 1099511627776 = f := ⟨first % 1099511627776, by simp, rfl⟩
      obtain ⟨l, hl, hln⟩ : ∃ l : Nat, (len : Int) % 4 = (l : Int) ∧ len % 4 = l := ⟨len % 4, by simp, rfl⟩
      have hqb : q < n := by rw [← hqn]; exact Nat.mod_lt _ hn0
      have hfb : f < 1099511627776 := by omega
      have hlb : l < 4 := by omega
      have hmap : (L.take (i + 1)).map (Raw.enc n) = (L.take i).map (Raw.enc n) ++ [⟨q, inc, f + 1, l⟩] := by
        rw [hsn, List.map_append]
        simp only [List.map_cons, List.map_nil, Raw.enc, hqn, hfn, hln]
      have hel : (Pl.encRun ⟨q, inc, f + 1, l⟩).length ≤ 40 := by
        have := encRun_le n ⟨snd, inc, first, len, s16, i64, f64, l8⟩ hn hn0
        simp only [Raw.enc, hqn, hfn, hln] at this
        exact this
      have HM := hide hmap
      have HEL := hide hel
      clear hcells hr hsn hqn hfn hln hmap hel
      generalize hRl : (L.take i).map (Raw.enc n) = R at *
      have HRl := hide hRl
      clear hRl
      generalize hpre : Lib.uvarint L.length ++ Pl.encRuns R = pre at *
      have HP := hide hpre
      clear hpre
      have hkz := hk.size
      go_wp2_with fail
      have hga := World.grownBy_alloc wr (.cells #[.int .u16 snd, .int .u64 inc, .int .u64 first, .int .u8 len] 105) none
      have hbx := heap_alloc_new wr (.cells #[.int .u16 snd, .int .u64 inc, .int .u64 first, .int .u8 len] 105)
      refine (au_b B m q (by omega) _ xs pre _ (hb.alloc _) (by simp; omega) (by omega)).mono ?_
      rintro e w2 ⟨vb2, rfl, hb2, hk2⟩
      have hbx2 := hk2.heap hbx (by decide)
      have hms2 := hk2.own (hms.alloc _) (by decide)
      have hK2 := (hk.grown hga).trans hk2
      generalize wr.heap.size = xb at *
      clear hga hbx hb hms hk hk2 c0 c1 c2 c3
      obtain ⟨x2, lx2⟩ := box_ld hbx2
      have HB2 := hide hbx2
      have hz2' := hK2.size
      clear hbx2
      go_wp2_with fail
      refine (au_b B m inc i64 _ xs _ _ hb2 (by omega) (by simp only [List.length_append]; have := Lib.uvarint_length64 (x := q) (by omega); omega)).mono ?_
      rintro e w3 ⟨vb3, rfl, hb3, hk3⟩
      have hbx3 := hide (hk3.heap (unhide HB2) (by decide))
      have hms3 := hk3.own hms2 (by decide)
      have hK3 := hK2.trans hk3
      have hz3' := hK3.size
      clear hb2 hms2 hk3 hK2 HB2 x2 lx2 hz2'
      go_wp2_with fail
      refine (au_b B m (f + 1) (by omega) _ xs _ _ hb3 (by omega) (by simp only [List.length_append]; have := Lib.uvarint_length64 (x := q) (by omega); have := Lib.uvarint_length64 i64; omega)).mono ?_
      rintro e w4 ⟨vb4, rfl, hb4, hk4⟩
      have hbx4 := hide (hk4.heap (unhide hbx3) (by decide))
      have hms4 := hk4.own hms3 (by decide)
      have hK4 := hK3.trans hk4
      have hz4' := hK4.size
      clear hb3 hms3 hk4 hK3 hbx3 hz3'
      go_wp2_with fail
      refine (au_b B m l (by omega) _ xs _ _ hb4 (by omega) (by simp only [List.length_append]; have := Lib.uvarint_length64 (x := q) (by omega); have := Lib.uvarint_length64 i64; have := Lib.uvarint_length64 (x := f + 1) (by omega); omega)).mono ?_
      rintro e w5 ⟨vb5, rfl, hb5, hk5⟩
      have hbx5 := hide (hk5.heap (unhide hbx4) (by decide))
      have hms5 := hk5.own hms4 (by decide)
      have hK5 := hK4.trans hk5
      clear hb4 hms4 hk5 hK4 hbx4 hz4'
      have HB5 := hide hb5
      clear hb5
      go_wp2_with fail
      generalize hT : Pl.total R = T at *
      have HT := hide hT
      clear hT
      go_loopw [8, 14] (fun vms vj wr => ∃ j : Nat, j ≤ l ∧ vj = .int .u64 j ∧ wr.ownsRow w.heap.size 95 4 vms (T + j) (msgCells R ++ runCells ⟨q, inc, f + 1, l⟩ j) ∧ wr.ownsRow B 5 1 vb5 (m + (pre ++ Lib.uvarint q ++ Lib.uvarint inc ++ Lib.uvarint (f + 1) ++ Lib.uvarint l).length) (xs ++ Lib.byteCells (pre ++ Lib.uvarint q ++ Lib.uvarint inc ++ Lib.uvarint (f + 1) ++ Lib.uvarint l)) ∧
          Hid (wr.heap[xb]? = some (.cells #[.int .u16 snd, .int .u64 inc, .int .u64 first, .int .u8 len] 105 (0, 0))) ∧ Kp B w wr)
        (fun _ vj _ => l - (intOf vj).toNat)
      case atStart => exact ⟨0, Nat.zero_le _, rfl, by simpa [runCells] using hms5, unhide HB5, hbx5, hK5⟩
      case round =>
        obtain ⟨j, hj, rfl, hmj, hbj, hxj, hKj⟩ := hrel
        clear hms5 HB5 hbx5 hK5
        have HBj := hide hbj
        clear hbj
        by_cases hlt3 : j < l
        · have hji : (j : Int) < (l : Int) := by omega
          obtain ⟨xl, lx⟩ := box_ld (unhide hxj)
          have hsz := hKj.size
          have hga := World.grownBy_alloc wr (.cells #[.int .i64 q, .int .u64 inc, .int .u64 ((f : Int) + 1 + (j : Int)), .slice none 0 0] 95) none
          have hma := hmj.alloc (.cells #[.int .i64 q, .int .u64 inc, .int .u64 ((f : Int) + 1 + (j : Int)), .slice none 0 0] 95)
          go_wp2_with (at_builtin; refine wpList_append_own _ rfl _ _ 29 rfl w.heap.size 95 i95 (.agg #[.int .i64 0, .int .u64 0, .int .u64 0, .slice none 0 0]) 4 48 Ybaf.underlying29 hi hz0 hz1 hz2 rfl (by decide) _ _ _ rfl hma ⟨wr.heap.size, 0, none⟩ 1 1 [.int .i64 q, .int .u64 inc, .int .u64 ((f : Int) + 1 + (j : Int)), .slice none 0 0] rfl rfl ?c1 ?c2 ?c3 ?c4 ?c5 ?_)
          case c1 =>
            intro p u hp
            match p, hp with
            | 0, hp => simp at hp; subst hp; simp [Addr.add]
            | 1, hp => simp at hp; subst hp; simp [Addr.add]
            | 2, hp => simp at hp; subst hp; simp [Addr.add]
            | 3, hp => simp at hp; subst hp; simp [Addr.add]
          case c2 => intro u hu; simp at hu; rcases hu with rfl | rfl | rfl | rfl <;> rfl
          case c3 => unfold maxLen; omega
          case c4 => omega
          case c5 => simp; omega
          intro v6 w6 hm6 hgr6 _
          have hb6 : Hid (w6.ownsRow B 5 1 vb5 (m + (pre ++ Lib.uvarint q ++ Lib.uvarint inc ++ Lib.uvarint (f + 1) ++ Lib.uvarint l).length) (xs ++ Lib.byteCells (pre ++ Lib.uvarint q ++ Lib.uvarint inc ++ Lib.uvarint (f + 1) ++ Lib.uvarint l))) := by
            refine World.ownsRow.kept ((unhide HBj).alloc _) hgr6 ?_
            by_cases hv : vb5.ownBlock = none
            · exact .inl hv
            · refine .inr fun e => ?_
              obtain ⟨b, hb⟩ := Option.ne_none_iff_exists'.1 hv
              obtain ⟨cur, hcur⟩ := own_block ((unhide HBj).alloc _) b hb
              obtain ⟨cur', hcur'⟩ := own_block hma b (by rw [← e]; exact hb)
              rw [hcur] at hcur'
              simp at hcur'
          have hx6 : Hid (w6.heap[xb]? = some (.cells #[.int .u16 snd, .int .u64 inc, .int .u64 first, .int .u8 len] 105 (0, 0))) := by
            have hxa := hga.block xb lx (by simp)
            rw [unhide hxj] at hxa
            show w6.heap[xb]? = _
            rw [hgr6.block xb (lt_heap hxa) (fun e => own_ne hma hxa (by decide) e.symm)]
            exact hxa
          have hK6 : Kp B w w6 := (hKj.grown hga).fresh hgr6 (fun k e => (hma.lt k e).1)
          go_wp2
          refine ⟨⟨j + 1, by omega, by go_num, ?_, unhide hb6, hx6, hK6⟩, by simp [intOf]; omega⟩
          simp only [runCells, msgCell]
          rw [← Nat.add_assoc, ← List.append_assoc]
          simpa using hm6
        · obtain rfl : j = l := by omega
          have hji : ¬ (j : Int) < (j : Int) := by omega
          go_wp2
          have hbytes : Lib.uvarint L.length ++ Pl.encRuns ((L.take (i + 1)).map (Raw.enc n)) = pre ++ Lib.uvarint q ++ Lib.uvarint inc ++ Lib.uvarint (f + 1) ++ Lib.uvarint j := by
            rw [unhide HM, encRuns_snoc, ← List.append_assoc, unhide HP]
            simp [Pl.encRun]
          have hlen2 : (pre ++ Lib.uvarint q ++ Lib.uvarint inc ++ Lib.uvarint (f + 1) ++ Lib.uvarint j).length ≤ 10 + 40 * (i + 1) := by
            have := unhide HEL
            simp only [Pl.encRun, List.length_append, List.length_nil] at this ⊢
            omega
          have htot : Pl.total ((L.take (i + 1)).map (Raw.enc n)) = T + j := by
            rw [unhide HM, Pl.total_append, unhide HT]
            simp [Pl.total]
          refine ⟨⟨i + 1, by omega, by go_num, ?_, ?_, ?_, ?_, hKj⟩, by simp [intOf]; omega⟩
          · rw [hbytes]; exact unhide HBj
          · rw [hbytes]; exact hlen2
          · rw [htot, unhide HM, msgCells_snoc]; exact hmj
          · rw [htot]; omega
    · obtain rfl : i = L.length := by omega
      have hii : ¬ (L.length : Int) < (L.length : Int) := by omega
      rw [List.take_length] at hb hms
      have HB := hide hb
      have HMS := hide hms
      clear hb hms
      go_wp2
      go_ret2
      refine ⟨_, _, rfl, ?_, unhide HMS, hk⟩
      have := unhide HB
      simp only [Pl.encIdent, List.length_map, List.append_nil]
      exact this
end Go.Proofs.YbulkcrjaFmt
