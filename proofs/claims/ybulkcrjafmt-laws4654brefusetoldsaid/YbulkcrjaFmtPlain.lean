/-
  Seat b4654aF: THE PLAIN MATHEMATICS: what the token's encoder writes and what its decoder reads, as functions on lists of bytes; no Go in sight.
-/
import Derived.Lib.Varint
import Derived.Lib.VarintDec
namespace Go.Proofs.YbulkcrjaFmt.Pl

/-- A reader of bytes: what it reads, and what is left; none: it fails. -/
abbrev Rd (α : Type) := List UInt8 → Option (α × List UInt8)

/-- 'f' reads just the bytes e, as a: whatever follows is left; and of a shorter beginning of e it makes nothing. -/
def Reads {α : Type} (f : Rd α) (e : List UInt8) (a : α) : Prop :=
  (∀ r, f (e ++ r) = some (a, r)) ∧ ∀ p q, e = p ++ q → q ≠ [] → f p = none

def Rd.andThen {α β : Type} (f : Rd α) (g : α → Rd β) : Rd β := fun l =>
  match f l with
  | none => none
  | some (a, l') => g a l'

theorem Reads.andThen {α β : Type} {f : Rd α} {g : α → Rd β} {e e' : List UInt8} {a : α} {b : β} (h : Reads f e a) (h' : Reads (g a) e' b) :
    Reads (f.andThen g) (e ++ e') b := by
  refine ⟨fun r => ?_, fun p q hpq hq => ?_⟩
  · simp only [Rd.andThen, List.append_assoc, h.1]
    exact h'.1 r
  · rcases List.append_eq_append_iff.1 hpq with ⟨c, rfl, hd⟩ | ⟨c, rfl, hd⟩
    · simp only [Rd.andThen, h.1]
      exact h'.2 c q hd hq
    · by_cases hc : c = []
      · subst hc
        simp only [List.nil_append] at hd
        subst hd
        have h0 := h.1 []
        simp only [List.append_nil] at h0
        simp only [List.append_nil] at *
        simp only [Rd.andThen, h0]
        exact h'.2 [] q rfl hq
      · simp only [Rd.andThen, h.2 p c rfl hc]

def Rd.done {α : Type} (a : α) : Rd α := fun l => some (a, l)
theorem Reads.done {α : Type} (a : α) : Reads (Rd.done a) [] a :=
  ⟨fun _ => rfl, fun p q h hq => by
    have := List.append_eq_nil_iff.1 h.symm
    exact absurd this.2 hq⟩

/-- A test on what is left, ahead of the reading. -/
def Rd.fits {α : Type} (c : List UInt8 → Bool) (f : Rd α) : Rd α := fun l => if c l then f l else none
theorem Reads.fits {α : Type} {c : List UInt8 → Bool} {f : Rd α} {e : List UInt8} {a : α} (h : Reads f e a) (hc : ∀ r, c (e ++ r) = true) : Reads (Rd.fits c f) e a := by
  refine ⟨fun r => ?_, fun p q hpq hq => ?_⟩
  · simp only [Rd.fits, hc, if_true, h.1]
  · simp only [Rd.fits]
    split
    · exact h.2 p q hpq hq
    · rfl

/-! ### The varints -/

theorem from_enc : ∀ (k x i acc : Nat) (r : List UInt8), x ≤ k → x * 2 ^ (7 * i) < 18446744073709551616 → i ≤ 9 →
    Lib.uvarintFrom i acc (Lib.uvarint x ++ r) = (acc + x * 2 ^ (7 * i), (i : Int) + ((Lib.uvarint x).length : Int)) := by
  intro k
  induction k with
  | zero =>
    intro x i acc r hx hlt hi
    obtain rfl : x = 0 := by omega
    rw [Lib.uvarint_small (by omega)]
    have e0 : (Nat.toUInt8 0).toNat = 0 := rfl
    simp only [List.cons_append, List.nil_append, Lib.uvarintFrom, e0]
    rw [if_neg (by omega), if_pos (by omega), if_neg (by omega)]
    simp
  | succ k ih =>
    intro x i acc r hx hlt hi
    by_cases h : x < 128
    · rw [Lib.uvarint_small h]
      have e0 : x.toUInt8.toNat = x := by simp [Nat.toUInt8]; omega
      simp only [List.cons_append, List.nil_append, Lib.uvarintFrom, e0]
      rw [if_neg (by omega), if_pos h, if_neg]
      · simp
      · rintro ⟨rfl, h1⟩
        have e9 : (2 : Nat) ^ (7 * 9) = 9223372036854775808 := by decide
        rw [e9] at hlt
        omega
    · rw [Lib.uvarint_big (by omega)]
      have e0 : (x % 128 + 128).toUInt8.toNat = x % 128 + 128 := by simp [Nat.toUInt8]; omega
      have hpow : (2 : Nat) ^ (7 * (i + 1)) = 128 * 2 ^ (7 * i) := by rw [Nat.mul_add, Nat.pow_add, Nat.mul_comm]
      have hsum : x = x % 128 + 128 * (x / 128) := (Nat.mod_add_div x 128).symm
      generalize hP : (2 : Nat) ^ (7 * i) = P at *
      have hprod : x / 128 * (128 * P) ≤ x * P := by
        rw [← Nat.mul_assoc]
        exact Nat.mul_le_mul_right _ (by omega)
      have hi9 : i + 1 ≤ 9 := by
        by_cases h9 : i = 9
        · subst h9
          have e9 : (2 : Nat) ^ (7 * 9) = 9223372036854775808 := by decide
          rw [e9] at hP
          subst hP
          omega
        · omega
      simp only [List.cons_append, Lib.uvarintFrom, e0]
      rw [if_neg (by omega), if_neg (by omega), ih (x / 128) (i + 1) _ r (by omega) (by rw [hpow]; omega) hi9]
      rw [hpow, hP]
      have em : (x % 128 + 128) % 128 = x % 128 := by omega
      rw [em]
      refine Prod.ext ?_ ?_
      · show acc + x % 128 * P + x / 128 * (128 * P) = acc + x * P
        have : x * P = x % 128 * P + x / 128 * (128 * P) := by
          conv => lhs; rw [hsum]
          rw [Nat.add_mul, Nat.mul_comm 128 (x / 128), Nat.mul_assoc]
        omega
      · show ((i + 1 : Nat) : Int) + ((Lib.uvarint (x / 128)).length : Int) = (i : Int) + (((x % 128 + 128).toUInt8 :: Lib.uvarint (x / 128)).length : Int)
        simp only [List.length_cons]
        omega

theorem from_short : ∀ (k x i acc : Nat) (p q : List UInt8), x ≤ k → x * 2 ^ (7 * i) < 18446744073709551616 → i ≤ 9 → Lib.uvarint x = p ++ q → q ≠ [] →
    Lib.uvarintFrom i acc p = (0, 0) := by
  intro k
  induction k with
  | zero =>
    intro x i acc p q hx hlt hi hpq hq
    obtain rfl : x = 0 := by omega
    rw [Lib.uvarint_small (by omega)] at hpq
    cases p with
    | nil => rfl
    | cons b p =>
      simp only [List.cons_append, List.cons.injEq] at hpq
      have := List.append_eq_nil_iff.1 hpq.2.symm
      exact absurd this.2 hq
  | succ k ih =>
    intro x i acc p q hx hlt hi hpq hq
    cases p with
    | nil => rfl
    | cons b p =>
      by_cases h : x < 128
      · rw [Lib.uvarint_small h] at hpq
        simp only [List.cons_append, List.cons.injEq] at hpq
        have := List.append_eq_nil_iff.1 hpq.2.symm
        exact absurd this.2 hq
      · rw [Lib.uvarint_big (by omega)] at hpq
        simp only [List.cons_append, List.cons.injEq] at hpq
        obtain ⟨rfl, hpq⟩ := hpq
        have e0 : (x % 128 + 128).toUInt8.toNat = x % 128 + 128 := by simp [Nat.toUInt8]; omega
        have hpow : (2 : Nat) ^ (7 * (i + 1)) = 128 * 2 ^ (7 * i) := by rw [Nat.mul_add, Nat.pow_add, Nat.mul_comm]
        generalize hP : (2 : Nat) ^ (7 * i) = P at *
        have hprod : x / 128 * (128 * P) ≤ x * P := by
          rw [← Nat.mul_assoc]
          exact Nat.mul_le_mul_right _ (by omega)
        have hi9 : i + 1 ≤ 9 := by
          by_cases h9 : i = 9
          · subst h9
            have e9 : (2 : Nat) ^ (7 * 9) = 9223372036854775808 := by decide
            rw [e9] at hP
            subst hP
            omega
          · omega
        simp only [Lib.uvarintFrom, e0]
        rw [if_neg (by omega), if_neg (by omega)]
        exact ih (x / 128) (i + 1) _ p q (by omega) (by rw [hpow]; omega) hi9 hpq hq

/-- One number off the bytes. -/
def uvF : Rd Nat := fun l => if (Lib.uvarintDec l).2 ≤ 0 then none else some ((Lib.uvarintDec l).1, l.drop (Lib.uvarintDec l).2.toNat)
def vF : Rd Int := fun l => if (Lib.varintDec l).2 ≤ 0 then none else some ((Lib.varintDec l).1, l.drop (Lib.varintDec l).2.toNat)

theorem dec_enc (x : Nat) (hx : x < 18446744073709551616) (r : List UInt8) : Lib.uvarintDec (Lib.uvarint x ++ r) = (x, ((Lib.uvarint x).length : Int)) := by
  have h := from_enc x x 0 0 r (Nat.le_refl _) (by simpa using hx) (by omega)
  simpa [Lib.uvarintDec] using h

theorem dec_short (x : Nat) (hx : x < 18446744073709551616) (p q : List UInt8) (h : Lib.uvarint x = p ++ q) (hq : q ≠ []) : Lib.uvarintDec p = (0, 0) := by
  have h := from_short x x 0 0 p q (Nat.le_refl _) (by simpa using hx) (by omega) h hq
  simpa [Lib.uvarintDec] using h

theorem reads_uv (x : Nat) (hx : x < 18446744073709551616) : Reads uvF (Lib.uvarint x) x := by
  refine ⟨fun r => ?_, fun p q hpq hq => ?_⟩
  · have hp := Lib.uvarint_pos x
    unfold uvF
    rw [dec_enc x hx r, if_neg (by show ¬ ((Lib.uvarint x).length : Int) ≤ 0; omega)]
    simp
  · unfold uvF
    rw [dec_short x hx p q hpq hq]
    simp

theorem zigzag_lt (x : Int) (h0 : -9223372036854775808 ≤ x) (h1 : x < 9223372036854775808) : Lib.zigzag x < 18446744073709551616 := by
  unfold Lib.zigzag
  split <;> omega
theorem unzigzag_zigzag (x : Int) : Lib.unzigzag (Lib.zigzag x) = x := by
  unfold Lib.zigzag Lib.unzigzag
  by_cases h : 0 ≤ x
  · rw [if_pos h, if_pos (by omega)]; omega
  · rw [if_neg h, if_neg (by omega)]; omega

theorem reads_v (x : Int) (h0 : -9223372036854775808 ≤ x) (h1 : x < 9223372036854775808) : Reads vF (Lib.uvarint (Lib.zigzag x)) x := by
  have hx := zigzag_lt x h0 h1
  refine ⟨fun r => ?_, fun p q hpq hq => ?_⟩
  · have hp := Lib.uvarint_pos (Lib.zigzag x)
    unfold vF Lib.varintDec
    rw [dec_enc _ hx r, if_neg (by show ¬ ((Lib.uvarint (Lib.zigzag x)).length : Int) ≤ 0; omega)]
    simp [unzigzag_zigzag]
  · unfold vF Lib.varintDec
    rw [dec_short _ hx p q hpq hq]
    simp

/-! ### Runs -/

structure Run where
  s : Nat
  inc : Nat
  first : Nat
  len : Nat

/-- What the decoder asks of a run. -/
def Run.bad (n : Nat) (r : Run) : Bool := decide (n ≤ r.s) || (decide (r.first = 0) || decide (18446744073709551616 - r.first < r.len))

def runF (n : Nat) : Rd Run :=
  uvF.andThen fun s => uvF.andThen fun inc => uvF.andThen fun first => uvF.andThen fun len => fun l =>
    if (Run.mk s inc first len).bad n then none else some (⟨s, inc, first, len⟩, l)

def encRun (r : Run) : List UInt8 := Lib.uvarint r.s ++ (Lib.uvarint r.inc ++ (Lib.uvarint r.first ++ (Lib.uvarint r.len ++ [])))

/-- A run that the encoder writes in a ring of n. -/
structure Run.fine (n : Nat) (r : Run) : Prop where
  s : r.s < n
  n256 : n ≤ 18446744073709551616
  inc : r.inc < 18446744073709551616
  first : 1 ≤ r.first
  len : r.len < 18446744073709551616
  room : r.first + r.len ≤ 18446744073709551616
  first' : r.first < 18446744073709551616

theorem reads_test {α : Type} (c : Bool) (a : α) (hc : c = false) : Reads (fun l => if c then none else some (a, l)) [] a := by
  subst hc
  exact Reads.done a

theorem reads_run (n : Nat) (r : Run) (h : r.fine n) : Reads (runF n) (encRun r) r := by
  have hb : r.bad n = false := by
    have h1 := h.s
    have h2 := h.first
    have h3 := h.room
    simp only [Run.bad, Bool.or_eq_false_iff, decide_eq_false_iff_not]
    omega
  exact (reads_uv r.s (by have := h.s; have := h.n256; omega)).andThen ((reads_uv r.inc h.inc).andThen ((reads_uv r.first h.first').andThen ((reads_uv r.len h.len).andThen
    (reads_test (r.bad n) r hb))))

theorem encRun_length (r : Run) : 4 ≤ (encRun r).length := by
  have h1 := Lib.uvarint_pos r.s
  have h2 := Lib.uvarint_pos r.inc
  have h3 := Lib.uvarint_pos r.first
  have h4 := Lib.uvarint_pos r.len
  simp only [encRun, List.length_append, List.length_nil]
  omega

def runsF (n : Nat) : Nat → Rd (List Run)
  | 0 => Rd.done []
  | k + 1 => (runF n).andThen fun r => (runsF n k).andThen fun rs => Rd.done (r :: rs)

def encRuns : List Run → List UInt8
  | [] => []
  | r :: rs => encRun r ++ (encRuns rs ++ [])

theorem reads_runs (n : Nat) : ∀ (rs : List Run), (∀ r ∈ rs, r.fine n) → Reads (runsF n rs.length) (encRuns rs) rs
  | [], _ => Reads.done []
  | r :: rs, h => (reads_run n r (h r (by simp))).andThen ((reads_runs n rs (fun r' hr => h r' (by simp [hr]))).andThen (Reads.done (r :: rs)))

theorem encRuns_length : ∀ rs : List Run, 4 * rs.length ≤ (encRuns rs).length
  | [] => by simp [encRuns]
  | r :: rs => by
    have h1 := encRun_length r
    have h2 := encRuns_length rs
    simp only [encRuns, List.length_append, List.length_cons, List.length_nil]
    omega

/-- How many messages the runs name. -/
def total : List Run → Nat
  | [] => 0
  | r :: rs => r.len + total rs

theorem total_append (a b : List Run) : total (a ++ b) = total a + total b := by
  induction a with
  | nil => simp [total]
  | cons r a ih => simp only [List.cons_append, total, ih]; omega

/-- The runs' reading, one more at its end. -/
theorem runsF_snoc (n : Nat) : ∀ (k : Nat) (l : List UInt8), runsF n (k + 1) l = ((runsF n k).andThen fun rs => (runF n).andThen fun r => Rd.done (rs ++ [r])) l
  | 0, l => by
    simp only [runsF, Rd.andThen, Rd.done]
    cases runF n l with
    | none => rfl
    | some p => rfl
  | k + 1, l => by
    have ih := runsF_snoc n k
    rw [runsF]
    simp only [Rd.andThen]
    cases hr : runF n l with
    | none => simp [runsF, Rd.andThen, hr]
    | some p =>
      obtain ⟨r, l1⟩ := p
      simp only
      rw [ih l1]
      simp only [runsF, Rd.andThen, hr, Rd.done]
      cases runsF n k l1 with
      | none => rfl
      | some q =>
        obtain ⟨rs, l2⟩ := q
        simp only
        cases runF n l2 with
        | none => rfl
        | some q2 => rfl

/-- What fails, fails however many are asked. -/
theorem runsF_none (n : Nat) (l : List UInt8) : ∀ (d k : Nat), runsF n k l = none → runsF n (k + d) l = none
  | 0, _, h => h
  | d + 1, k, h => by
    rw [← Nat.add_assoc, runsF_snoc]
    simp only [Rd.andThen, runsF_none n l d k h]

theorem runsF_total (n : Nat) (l : List UInt8) : ∀ (d k : Nat) (rs rs' : List Run) (l' l'' : List UInt8), runsF n k l = some (rs, l') → runsF n (k + d) l = some (rs', l'') → total rs ≤ total rs'
  | 0, k, rs, rs', l', l'', h, h' => by
    rw [Nat.add_zero, h] at h'
    cases h'
    exact Nat.le_refl _
  | d + 1, k, rs, rs', l', l'', h, h' => by
    rw [← Nat.add_assoc, runsF_snoc] at h'
    simp only [Rd.andThen] at h'
    cases hk : runsF n (k + d) l with
    | none => rw [hk] at h'; cases h'
    | some p =>
      obtain ⟨r1, l1⟩ := p
      rw [hk] at h'
      simp only at h'
      have ih := runsF_total n l d k rs r1 l' l1 h hk
      cases hr : runF n l1 with
      | none => rw [hr] at h'; cases h'
      | some q =>
        obtain ⟨r2, l2⟩ := q
        rw [hr] at h'
        simp only [Rd.done, Option.some.injEq, Prod.mk.injEq] at h'
        obtain ⟨rfl, _⟩ := h'
        rw [total_append]
        omega

def limF (max : Nat) (rs : List Run) : Rd (List Run) := fun l => if decide (max < total rs) then none else some (rs, l)

def identF (n max : Nat) : Rd (List Run) :=
  uvF.andThen fun count => Rd.fits (fun l => decide (count ≤ l.length / 4)) ((runsF n count).andThen (limF max))

def encIdent (rs : List Run) : List UInt8 := Lib.uvarint rs.length ++ (encRuns rs ++ [])

theorem reads_ident (n max : Nat) (rs : List Run) (h : ∀ r ∈ rs, r.fine n) (hl : rs.length < 18446744073709551616) (ht : total rs ≤ max) : Reads (identF n max) (encIdent rs) rs := by
  refine (reads_uv rs.length hl).andThen (Reads.fits ((reads_runs n rs h).andThen (reads_test (decide (max < total rs)) rs (by simpa using ht))) fun r => ?_)
  have := encRuns_length rs
  simp only [List.append_nil, List.length_append, decide_eq_true_eq]
  omega

/-! ### Numbers -/

def numsF : Nat → Rd (List Nat)
  | 0 => Rd.done []
  | k + 1 => uvF.andThen fun x => (numsF k).andThen fun xs => Rd.done (x :: xs)

def encNums : List Nat → List UInt8
  | [] => []
  | x :: xs => Lib.uvarint x ++ (encNums xs ++ [])

theorem reads_nums : ∀ (xs : List Nat), (∀ x ∈ xs, x < 18446744073709551616) → Reads (numsF xs.length) (encNums xs) xs
  | [], _ => Reads.done []
  | x :: xs, h => (reads_uv x (h x (by simp))).andThen ((reads_nums xs (fun y hy => h y (by simp [hy]))).andThen (Reads.done (x :: xs)))

theorem encNums_length : ∀ xs : List Nat, xs.length ≤ (encNums xs).length
  | [] => by simp [encNums]
  | x :: xs => by
    have h1 := Lib.uvarint_pos x
    have h2 := encNums_length xs
    simp only [encNums, List.length_append, List.length_cons, List.length_nil]
    omega

theorem numsF_snoc : ∀ (k : Nat) (l : List UInt8), numsF (k + 1) l = ((numsF k).andThen fun xs => uvF.andThen fun x => Rd.done (xs ++ [x])) l
  | 0, l => by
    simp only [numsF, Rd.andThen, Rd.done]
    cases uvF l with
    | none => rfl
    | some p => rfl
  | k + 1, l => by
    have ih := numsF_snoc k
    rw [numsF]
    simp only [Rd.andThen]
    cases hr : uvF l with
    | none => simp [numsF, Rd.andThen, hr]
    | some p =>
      obtain ⟨r, l1⟩ := p
      simp only
      rw [ih l1]
      simp only [numsF, Rd.andThen, hr, Rd.done]
      cases numsF k l1 with
      | none => rfl
      | some q =>
        obtain ⟨rs, l2⟩ := q
        simp only
        cases uvF l2 with
        | none => rfl
        | some q2 => rfl

theorem numsF_none (l : List UInt8) : ∀ (d k : Nat), numsF k l = none → numsF (k + d) l = none
  | 0, _, h => h
  | d + 1, k, h => by
    rw [← Nat.add_assoc, numsF_snoc]
    simp only [Rd.andThen, numsF_none l d k h]

def numbersF (max : Nat) : Rd (List Nat) :=
  uvF.andThen fun count => Rd.fits (fun l => decide (count ≤ max) && decide (count ≤ l.length)) (numsF count)

def encNumbers (xs : List Nat) : List UInt8 := Lib.uvarint xs.length ++ encNums xs

theorem reads_numbers (max : Nat) (xs : List Nat) (h : ∀ x ∈ xs, x < 18446744073709551616) (hl : xs.length < 18446744073709551616) (hm : xs.length ≤ max) : Reads (numbersF max) (encNumbers xs) xs := by
  refine (reads_uv xs.length hl).andThen (Reads.fits (reads_nums xs h) fun r => ?_)
  have := encNums_length xs
  simp only [List.length_append, Bool.and_eq_true, decide_eq_true_eq]
  omega

/-! ### The token -/

structure Tok where
  round : Int
  votes : Nat
  prop : List Run
  start : Nat
  deliv : List Run
  acks : List Nat
  census : Nat

def segF (start : Nat) (rs : List Run) : Rd (List Run) := fun l => if decide (18446744073709551615 - total rs < start) then none else some (rs, l)

def tokF (n : Nat) : Rd Tok :=
  vF.andThen fun round => uvF.andThen fun votes => (identF n (n * 1024)).andThen fun prop => uvF.andThen fun start => (identF n (4 * (n * 1024))).andThen fun deliv =>
    (segF start deliv).andThen fun _ => (numbersF n).andThen fun acks => uvF.andThen fun census => Rd.done ⟨round, votes, prop, start, deliv, acks, census⟩

def encTok (t : Tok) : List UInt8 :=
  Lib.uvarint (Lib.zigzag t.round) ++ (Lib.uvarint t.votes ++ (encIdent t.prop ++ (Lib.uvarint t.start ++ (encIdent t.deliv ++ ([] ++ (encNumbers t.acks ++ (Lib.uvarint t.census ++ [])))))))

/-- A token that the encoder writes in a ring of n. -/
structure Tok.fine (n : Nat) (t : Tok) : Prop where
  round0 : -9223372036854775808 ≤ t.round
  round1 : t.round < 9223372036854775808
  votes : t.votes < 18446744073709551616
  prop : ∀ r ∈ t.prop, r.fine n
  propLen : t.prop.length < 18446744073709551616
  propMax : total t.prop ≤ n * 1024
  start : t.start < 18446744073709551616
  room : t.start + total t.deliv ≤ 18446744073709551615
  deliv : ∀ r ∈ t.deliv, r.fine n
  delivLen : t.deliv.length < 18446744073709551616
  delivMax : total t.deliv ≤ 4 * (n * 1024)
  acks : ∀ x ∈ t.acks, x < 18446744073709551616
  acksLen : t.acks.length < 18446744073709551616
  acksMax : t.acks.length ≤ n
  census : t.census < 18446744073709551616

theorem reads_tok (n : Nat) (t : Tok) (h : t.fine n) : Reads (tokF n) (encTok t) t :=
  (reads_v t.round h.round0 h.round1).andThen ((reads_uv t.votes h.votes).andThen ((reads_ident n _ t.prop h.prop h.propLen h.propMax).andThen ((reads_uv t.start h.start).andThen
    ((reads_ident n _ t.deliv h.deliv h.delivLen h.delivMax).andThen ((reads_test (decide (18446744073709551615 - total t.deliv < t.start)) t.deliv (by have := h.room; simp only [decide_eq_false_iff_not]; omega)).andThen
    ((reads_numbers n t.acks h.acks h.acksLen h.acksMax).andThen ((reads_uv t.census h.census).andThen (Reads.done t))))))))

/-- The decoder's word on a body: the token, or none. -/
def decF (n : Nat) (l : List UInt8) : Option Tok :=
  match tokF n l with
  | some (t, []) => some t
  | _ => none

theorem dec_whole (n : Nat) (t : Tok) (h : t.fine n) : decF n (encTok t) = some t := by
  have := (reads_tok n t h).1 []
  simp only [List.append_nil] at this
  simp only [decF, this]
theorem dec_cut (n : Nat) (t : Tok) (h : t.fine n) (p q : List UInt8) (hpq : encTok t = p ++ q) (hq : q ≠ []) : decF n p = none := by
  simp only [decF, (reads_tok n t h).2 p q hpq hq]
theorem dec_more (n : Nat) (t : Tok) (h : t.fine n) (x : UInt8) : decF n (encTok t ++ [x]) = none := by
  simp only [decF, (reads_tok n t h).1 [x]]
theorem encTok_pos (t : Tok) : 0 < (encTok t).length := by
  have := Lib.uvarint_pos (Lib.zigzag t.round)
  simp only [encTok, List.length_append]
  omega

end Go.Proofs.YbulkcrjaFmt.Pl
