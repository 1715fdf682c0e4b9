/-
  NARROWER THAN 'FOR EVERY INPUT', by the rows' own cells (each row's printed sentence says how): LawS4654BExact: ifaces, laid · LawS4654BRefuse: ifaces, laid · LawS4654BDamaged: ifaces, laid · LawS4654CWrapsCutOff: ifaces, laid.
  DERIVED. THE GIVEN ROWS OF THIS SEAT. 4 by the template 'for every input the law returns true; each argument reads behind the call as it read before'; 0 by the template 'total and deterministic' (their statements: YbulkcrjaFmtTotals.lean).
  GIVEN WITH THE SEED: the statements are not yours to turn. If you find one false, say at which input.
  Laid BY PROGRAM, IN A SANDBOX (cutbox-rows.mjs): the forced cells as the released guide's own fill.sh prints them over the translation 1c7a952a114eaa67… (all of the seat's roots in one cut). By AI agents, Wed Nov 11 2026. No macro, syntax, notation, axiom, sorry.
-/
import Derived.Test.YbulkcrjaFmtChecked
import GoSem.Claim
import GoSem.ClaimJoined
import GoSem.ClaimMapViews
import Derived.JoinedTies
import Derived.KernelRfl
namespace Go.Proofs.YbulkcrjaFmt
/- THE CELL 'sum', in the pinned program and in every row, IS THE sha256 OF THE DUMP (.gsa) THAT YbulkcrjaFmtProg.lean LOADS. Nothing in Lean hashes anything: it is a label: what it is worth is what the hold of that sum in a sandbox is worth. -/
noncomputable def Ybaf.pinned : Pinned := { name := "ybulkcrjafmt", sum := "1c7a952a114eaa6798ce2f6be4fe27abc6e73ffc34d2f89f1b4ad309c8655dd1", checked := Ybaf.checked }
namespace Rows
def none {H : Type} : Left H := { results := [], args := [] }

/- WHAT THE LISTED PACKAGE-LEVEL VARIABLES READ AS WHEN THE CALL BEGINS. Each datum BY PROGRAM (the guide's laid-datum.mjs) off the statement by which the dump's own 'gosem.cut.vars' lays the variable. In a bare row this is a premise. The card (YbulkcrjaFmtCards.lean) ties it to the program's text. -/
def laid_example_com_batonring_batonring_errBadFrame {H : Type} : DataW H := .iface "*errors.errorString" (.ptr (.agg [.lit (.string [98, 97, 116, 111, 110, 114, 105, 110, 103, 58, 32, 109, 97, 108, 102, 111, 114, 109, 101, 100, 32, 102, 114, 97, 109, 101])]))
def laid_example_com_batonring_batonring_ErrCutOff {H : Type} : DataW H := .iface "*errors.errorString" (.ptr (.agg [.lit (.string [98, 97, 116, 111, 110, 114, 105, 110, 103, 58, 32, 99, 117, 116, 32, 111, 102, 102, 32, 102, 114, 111, 109, 32, 116, 104, 101, 32, 100, 101, 108, 105, 118, 101, 114, 105, 101, 115, 32, 116, 104, 105, 115, 32, 109, 101, 109, 98, 101, 114, 32, 108, 97, 99, 107, 115])]))
def laid_example_com_batonring_batonring_ErrOvertaken {H : Type} : DataW H := .iface "*errors.errorString" (.ptr (.agg [.lit (.string [98, 97, 116, 111, 110, 114, 105, 110, 103, 58, 32, 111, 118, 101, 114, 116, 97, 107, 101, 110, 32, 98, 121, 32, 97, 32, 108, 97, 116, 101, 114, 32, 105, 110, 99, 97, 114, 110, 97, 116, 105, 111, 110, 32, 111, 102, 32, 116, 104, 105, 115, 32, 109, 101, 109, 98, 101, 114, 39, 115, 32, 105, 110, 100, 101, 120])]))

/-- 'batonring.LawS4654BExact': WHATEVER THE INPUT: true; the input reads as it did. -/
def lawS4654BExactSpec : ChangeSpec := { name := "lawS4654BExact", vars := ["example.com/batonring/batonring.errBadFrame"], fn := fun _ => fun
  | [d, g1] => { results := [.lit (.bool true)], args := [d], vars := [g1] }
  | _ => none }
def lawS4654BExactRow : OpenClaim := { program := "ybulkcrjafmt", sum := "1c7a952a114eaa6798ce2f6be4fe27abc6e73ffc34d2f89f1b4ad309c8655dd1", func := "example.com/batonring/batonring.LawS4654BExact", spec := "lawS4654BExact", stops := ["fmt.Sprintf", "fmt.errorf"], inPlace := ["fmt.errorf"], named := ["example.com/batonring/batonring.errBadFrame"], ifaces := true, apart := false, laid := [("example.com/batonring/batonring.errBadFrame", laid_example_com_batonring_batonring_errBadFrame)] }
/-- NO THEOREM (fmt's text is open here; it may be false): for the released tool's asking of the row's closed facts alone. THE STATEMENT IS 'LawS4654BExactToldSaid' (YbulkcrjaFmtCards.lean). -/
def LawS4654BExactFormAsk : Prop := lawS4654BExactRow.holds Ybaf.pinned (OpenSpec.ofChange lawS4654BExactSpec)

/-- ITS FALSE NEIGHBOUR: 'it returns false'. Refute it at one input. -/
def lawS4654BExactWrong : ChangeSpec := { name := "lawS4654BExact", vars := ["example.com/batonring/batonring.errBadFrame"], fn := fun _ => fun
  | [d, g1] => { results := [.lit (.bool false)], args := [d], vars := [g1] }
  | _ => none }
def LawS4654BExactWrongFormAsk : Prop := lawS4654BExactRow.holds Ybaf.pinned (OpenSpec.ofChange lawS4654BExactWrong)

/-- 'batonring.LawS4654BRefuse': WHATEVER THE INPUT: true; the input reads as it did. -/
def lawS4654BRefuseSpec : ChangeSpec := { name := "lawS4654BRefuse", vars := ["example.com/batonring/batonring.errBadFrame"], fn := fun _ => fun
  | [d1, d2, d3, g1] => { results := [.lit (.bool true)], args := [d1, d2, d3], vars := [g1] }
  | _ => none }
def lawS4654BRefuseRow : OpenClaim := { program := "ybulkcrjafmt", sum := "1c7a952a114eaa6798ce2f6be4fe27abc6e73ffc34d2f89f1b4ad309c8655dd1", func := "example.com/batonring/batonring.LawS4654BRefuse", spec := "lawS4654BRefuse", stops := ["fmt.Sprintf", "fmt.errorf"], inPlace := ["fmt.errorf", "internal/reflectlite.TypeOf"], unfollowed := true, recurses := true, named := ["example.com/batonring/batonring.errBadFrame"], ifaces := true, apart := false, laid := [("example.com/batonring/batonring.errBadFrame", laid_example_com_batonring_batonring_errBadFrame)] }
/-- NO THEOREM (fmt's text is open here; it may be false): for the released tool's asking of the row's closed facts alone. THE STATEMENT IS 'LawS4654BRefuseToldSaid' (YbulkcrjaFmtCards.lean). -/
def LawS4654BRefuseFormAsk : Prop := lawS4654BRefuseRow.holds Ybaf.pinned (OpenSpec.ofChange lawS4654BRefuseSpec)

/-- ITS FALSE NEIGHBOUR: 'it returns false'. Refute it at one input. -/
def lawS4654BRefuseWrong : ChangeSpec := { name := "lawS4654BRefuse", vars := ["example.com/batonring/batonring.errBadFrame"], fn := fun _ => fun
  | [d1, d2, d3, g1] => { results := [.lit (.bool false)], args := [d1, d2, d3], vars := [g1] }
  | _ => none }
def LawS4654BRefuseWrongFormAsk : Prop := lawS4654BRefuseRow.holds Ybaf.pinned (OpenSpec.ofChange lawS4654BRefuseWrong)

/-- 'batonring.LawS4654BDamaged': WHATEVER THE INPUT: true; the input reads as it did. -/
def lawS4654BDamagedSpec : ChangeSpec := { name := "lawS4654BDamaged", vars := ["example.com/batonring/batonring.errBadFrame"], fn := fun _ => fun
  | [d1, d2, d3, g1] => { results := [.lit (.bool true)], args := [d1, d2, d3], vars := [g1] }
  | _ => none }
def lawS4654BDamagedRow : OpenClaim := { program := "ybulkcrjafmt", sum := "1c7a952a114eaa6798ce2f6be4fe27abc6e73ffc34d2f89f1b4ad309c8655dd1", func := "example.com/batonring/batonring.LawS4654BDamaged", spec := "lawS4654BDamaged", stops := ["fmt.Sprintf", "fmt.errorf"], inPlace := ["fmt.errorf", "internal/reflectlite.TypeOf"], unfollowed := true, recurses := true, named := ["example.com/batonring/batonring.errBadFrame"], ifaces := true, apart := false, laid := [("example.com/batonring/batonring.errBadFrame", laid_example_com_batonring_batonring_errBadFrame)] }
/-- NO THEOREM (fmt's text is open here; it may be false): for the released tool's asking of the row's closed facts alone. THE STATEMENT IS 'LawS4654BDamagedToldSaid' (YbulkcrjaFmtCards.lean). -/
def LawS4654BDamagedFormAsk : Prop := lawS4654BDamagedRow.holds Ybaf.pinned (OpenSpec.ofChange lawS4654BDamagedSpec)

/-- ITS FALSE NEIGHBOUR: 'it returns false'. Refute it at one input. -/
def lawS4654BDamagedWrong : ChangeSpec := { name := "lawS4654BDamaged", vars := ["example.com/batonring/batonring.errBadFrame"], fn := fun _ => fun
  | [d1, d2, d3, g1] => { results := [.lit (.bool false)], args := [d1, d2, d3], vars := [g1] }
  | _ => none }
def LawS4654BDamagedWrongFormAsk : Prop := lawS4654BDamagedRow.holds Ybaf.pinned (OpenSpec.ofChange lawS4654BDamagedWrong)

/-- 'batonring.LawS4654CWrapsCutOff': WHATEVER THE INPUT: true; the input reads as it did. -/
def lawS4654CWrapsCutOffSpec : ChangeSpec := { name := "lawS4654CWrapsCutOff", vars := ["example.com/batonring/batonring.ErrCutOff", "example.com/batonring/batonring.ErrOvertaken"], fn := fun _ => fun
  | [d1, d2, d3, d4, d5, d6, d7, g1, g2] => { results := [.lit (.bool true)], args := [d1, d2, d3, d4, d5, d6, d7], vars := [g1, g2] }
  | _ => none }
def lawS4654CWrapsCutOffRow : OpenClaim := { program := "ybulkcrjafmt", sum := "1c7a952a114eaa6798ce2f6be4fe27abc6e73ffc34d2f89f1b4ad309c8655dd1", func := "example.com/batonring/batonring.LawS4654CWrapsCutOff", spec := "lawS4654CWrapsCutOff", stops := ["fmt.Sprintf", "fmt.errorf"], inPlace := ["fmt.errorf", "fmt.Sprintf", "internal/reflectlite.TypeOf"], unfollowed := true, recurses := true, named := ["example.com/batonring/batonring.ErrCutOff", "example.com/batonring/batonring.ErrOvertaken"], ifaces := true, apart := false, laid := [("example.com/batonring/batonring.ErrCutOff", laid_example_com_batonring_batonring_ErrCutOff), ("example.com/batonring/batonring.ErrOvertaken", laid_example_com_batonring_batonring_ErrOvertaken)] }
/-- NO THEOREM (fmt's text is open here; it may be false): for the released tool's asking of the row's closed facts alone. THE STATEMENT IS 'LawS4654CWrapsCutOffToldSaid' (YbulkcrjaFmtCards.lean). -/
def LawS4654CWrapsCutOffFormAsk : Prop := lawS4654CWrapsCutOffRow.holds Ybaf.pinned (OpenSpec.ofChange lawS4654CWrapsCutOffSpec)

/-- ITS FALSE NEIGHBOUR: 'it returns false'. Refute it at one input. -/
def lawS4654CWrapsCutOffWrong : ChangeSpec := { name := "lawS4654CWrapsCutOff", vars := ["example.com/batonring/batonring.ErrCutOff", "example.com/batonring/batonring.ErrOvertaken"], fn := fun _ => fun
  | [d1, d2, d3, d4, d5, d6, d7, g1, g2] => { results := [.lit (.bool false)], args := [d1, d2, d3, d4, d5, d6, d7], vars := [g1, g2] }
  | _ => none }
def LawS4654CWrapsCutOffWrongFormAsk : Prop := lawS4654CWrapsCutOffRow.holds Ybaf.pinned (OpenSpec.ofChange lawS4654CWrapsCutOffWrong)

end Rows
end Go.Proofs.YbulkcrjaFmt
