/-
  Seat b4654aF: 'decodeToken', against the plain reader.
-/
import Derived.Test.YbulkcrjaFmtTok
namespace Go.Proofs.YbulkcrjaFmt
open Go.RowKit Go.Extern.Stop Go.Stop Go.Extern

theorem vS_some {l : List UInt8} {x : Int} {l' : List UInt8} (h : vS (some l) = (x, some l')) : Pl.vF l = some (x, l') := by
  simp only [vS] at h
  cases h1 : Pl.vF l with
  | none => rw [h1] at h; simp at h
  | some p => obtain ⟨y, l1⟩ := p; rw [h1] at h; simp at h; rw [h.1, h.2]
theorem vS_none {l : List UInt8} {x : Int} (h : vS (some l) = (x, none)) : Pl.vF l = none := by
  simp only [vS] at h
  cases h1 : Pl.vF l with
  | none => rfl
  | some p => obtain ⟨y, l1⟩ := p; rw [h1] at h; simp at h
theorem identS_some {n max : Nat} {l l' : List UInt8} {rs : List Pl.Run} (h : identS n max (some l) = (rs, some l')) : Pl.identF n max l = some (rs, l') := by
  simp only [identS] at h
  cases h1 : Pl.identF n max l with
  | none => rw [h1] at h; simp at h
  | some p => obtain ⟨y, l1⟩ := p; rw [h1] at h; simp at h; rw [h.1, h.2]
theorem identS_none {n max : Nat} {l : List UInt8} {rs : List Pl.Run} (h : identS n max (some l) = (rs, none)) : Pl.identF n max l = none := by
  simp only [identS] at h
  cases h1 : Pl.identF n max l with
  | none => rfl
  | some p => obtain ⟨y, l1⟩ := p; rw [h1] at h; simp at h
theorem numS_some {max : Nat} {l l' : List UInt8} {xs : List Nat} (h : numS max (some l) = (xs, some l')) : Pl.numbersF max l = some (xs, l') := by
  simp only [numS] at h
  cases h1 : Pl.numbersF max l with
  | none => rw [h1] at h; simp at h
  | some p => obtain ⟨y, l1⟩ := p; rw [h1] at h; simp at h; rw [h.1, h.2]
theorem numS_none {max : Nat} {l : List UInt8} {xs : List Nat} (h : numS max (some l) = (xs, none)) : Pl.numbersF max l = none := by
  simp only [numS] at h
  cases h1 : Pl.numbersF max l with
  | none => rfl
  | some p => obtain ⟨y, l1⟩ := p; rw [h1] at h; simp at h

/-- How the decoder's steps come to the plain reader's word. -/
theorem steps_dec (n : Nat) (body : List UInt8) (round : Int) (votes start census : Nat) (prop deliv : List Pl.Run) (acks : List Nat) (s1 s2 s3 s4 s5 s7 s8 : Option (List UInt8))
    (h1 : vS (some body) = (round, s1)) (h2 : uvS s1 = (votes, s2)) (h3 : identS n (n * 1024) s2 = (prop, s3)) (h4 : uvS s3 = (start, s4)) (h5 : identS n (4 * (n * 1024)) s4 = (deliv, s5)) (h7 : numS n (segS start deliv s5) = (acks, s7)) (h8 : uvS s7 = (census, s8)) :
    (endS s8 = none ∧ Pl.decF n body = none) ∨ (∃ l, endS s8 = some l) ∧ Pl.decF n body = some ⟨round, votes, prop, start, deliv, acks, census⟩ := by
  have k8 : s7 = none → s8 = none := by rintro rfl; exact (uvS_bad h8).2
  have k7 : segS start deliv s5 = none → s7 = none := by
    intro e
    rw [e] at h7
    simp only [numS, Prod.mk.injEq] at h7
    exact h7.2.symm
  have k5 : s5 = none → segS start deliv s5 = none := by rintro rfl; unfold segS; split <;> rfl
  have k4 : s4 = none → s5 = none := by
    rintro rfl
    simp only [identS, Prod.mk.injEq] at h5
    exact h5.2.symm
  have k3 : s3 = none → s4 = none := by rintro rfl; exact (uvS_bad h4).2
  have k2 : s2 = none → s3 = none := by
    rintro rfl
    simp only [identS, Prod.mk.injEq] at h3
    exact h3.2.symm
  have k1 : s1 = none → s2 = none := by rintro rfl; exact (uvS_bad h2).2
  cases s1 with
  | none =>
    refine .inl ⟨by rw [k8 (k7 (k5 (k4 (k3 (k2 (k1 rfl))))))]; rfl, ?_⟩
    simp only [Pl.decF, Pl.tokF, Pl.Rd.andThen, vS_none h1]
  | some l1 =>
    have e1 := vS_some h1
    cases s2 with
    | none =>
      refine .inl ⟨by rw [k8 (k7 (k5 (k4 (k3 (k2 rfl)))))]; rfl, ?_⟩
      simp only [Pl.decF, Pl.tokF, Pl.Rd.andThen, e1, uvS_none h2]
    | some l2 =>
      have e2 := uvS_some h2
      cases s3 with
      | none =>
        refine .inl ⟨by rw [k8 (k7 (k5 (k4 (k3 rfl))))]; rfl, ?_⟩
        simp only [Pl.decF, Pl.tokF, Pl.Rd.andThen, e1, e2, identS_none h3]
      | some l3 =>
        have e3 := identS_some h3
        cases s4 with
        | none =>
          refine .inl ⟨by rw [k8 (k7 (k5 (k4 rfl)))]; rfl, ?_⟩
          simp only [Pl.decF, Pl.tokF, Pl.Rd.andThen, e1, e2, e3, uvS_none h4]
        | some l4 =>
          have e4 := uvS_some h4
          cases s5 with
          | none =>
            refine .inl ⟨by rw [k8 (k7 (k5 rfl))]; rfl, ?_⟩
            simp only [Pl.decF, Pl.tokF, Pl.Rd.andThen, e1, e2, e3, e4, identS_none h5]
          | some l5 =>
            have e5 := identS_some h5
            by_cases hs : 18446744073709551615 - Pl.total deliv < start
            · refine .inl ⟨by rw [k8 (k7 (if_pos hs))]; rfl, ?_⟩
              simp only [Pl.decF, Pl.tokF, Pl.Rd.andThen, e1, e2, e3, e4, e5, Pl.segF, decide_eq_true hs, if_true]
            · have es : segS start deliv (some l5) = some l5 := if_neg hs
              rw [es] at h7
              have hs' : decide (18446744073709551615 - Pl.total deliv < start) = false := decide_eq_false hs
              cases s7 with
              | none =>
                refine .inl ⟨by rw [k8 rfl]; rfl, ?_⟩
                simp only [Pl.decF, Pl.tokF, Pl.Rd.andThen, e1, e2, e3, e4, e5, Pl.segF, hs', Bool.false_eq_true, if_false, numS_none h7]
              | some l7 =>
                have e7 := numS_some h7
                cases s8 with
                | none =>
                  refine .inl ⟨rfl, ?_⟩
                  simp only [Pl.decF, Pl.tokF, Pl.Rd.andThen, e1, e2, e3, e4, e5, Pl.segF, hs', Bool.false_eq_true, if_false, e7, uvS_none h8]
                | some l8 =>
                  have e8 := uvS_some h8
                  cases l8 with
                  | nil =>
                    refine .inr ⟨⟨[], rfl⟩, ?_⟩
                    simp only [Pl.decF, Pl.tokF, Pl.Rd.andThen, e1, e2, e3, e4, e5, Pl.segF, hs', Bool.false_eq_true, if_false, e7, e8, Pl.Rd.done]
                  | cons b l8 =>
                    refine .inl ⟨rfl, ?_⟩
                    simp only [Pl.decF, Pl.tokF, Pl.Rd.andThen, e1, e2, e3, e4, e5, Pl.segF, hs', Bool.false_eq_true, if_false, e7, e8, Pl.Rd.done]

/-- 'decodeToken' where the plain reader says none: it fails. -/
theorem tok_none (F : Interp) (a : Addr) (ao : Option Addr) (c n : Nat) (body : List UInt8) (hn : n ≤ 256) (w : World) (hE : Env F a w) (hB : Bytes w ao c body) (h : Pl.decF n body = none) :
    Calls Ybaf.prog 9 #[.slice ao body.length c, .int .i64 n] w fun e w' => ErrPost a w e w' := by
  have hs := steps_dec n body _ _ _ _ _ _ _ _ _ _ _ _ _ _ rfl rfl rfl rfl rfl rfl rfl
  refine (tok_steps F a ao c n body hn w hE hB _ _ _ _ _ _ _ _ _ _ _ _ _ _ rfl rfl rfl rfl rfl rfl rfl).mono ?_
  intro e w' hp
  rcases hs with ⟨h1, _⟩ | ⟨_, h2⟩
  · rw [h1] at hp; exact hp
  · rw [h] at h2; cases h2

/-- 'decodeToken' where the plain reader reads a token: votes and census are held against n. -/
theorem tok_some (F : Interp) (a : Addr) (ao : Option Addr) (c n : Nat) (body : List UInt8) (hn : n ≤ 256) (w : World) (hE : Env F a w) (hB : Bytes w ao c body) (t : Pl.Tok) (h : Pl.decF n body = some t) :
    Calls Ybaf.prog 9 #[.slice ao body.length c, .int .i64 n] w fun e w' => if n < t.votes ∨ n < t.census then ErrPost a w e w' else OkPost w t e w' := by
  have hs := steps_dec n body _ _ _ _ _ _ _ _ _ _ _ _ _ _ rfl rfl rfl rfl rfl rfl rfl
  refine (tok_steps F a ao c n body hn w hE hB _ _ _ _ _ _ _ _ _ _ _ _ _ _ rfl rfl rfl rfl rfl rfl rfl).mono ?_
  intro e w' hp
  rcases hs with ⟨_, h2⟩ | ⟨⟨l, h1⟩, h2⟩
  · rw [h] at h2; cases h2
  · rw [h] at h2
    cases h2
    rw [h1] at hp
    exact hp

end Go.Proofs.YbulkcrjaFmt
