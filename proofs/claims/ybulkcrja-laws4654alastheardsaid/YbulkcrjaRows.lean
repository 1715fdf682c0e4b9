/-
  No cell of these rows narrows 'for every input' (looked for: loops, veiled, ifaces, maps, wideKeys, modest, calm, conditions, laid).
  DERIVED. THE GIVEN ROWS OF THIS SEAT. 2 by the template 'for every input the law returns true; each argument reads behind the call as it read before'; 0 by the template 'total and deterministic' (their statements: YbulkcrjaTotals.lean).
  GIVEN WITH THE SEED: the statements are not yours to turn. If you find one false, say at which input.
  Laid BY PROGRAM, IN A SANDBOX (cutbox-rows.mjs): the forced cells as the released guide's own fill.sh prints them over the translation 3bd1576798a53a01… (all of the seat's roots in one cut). By AI agents, Wed Nov 11 2026. No macro, syntax, notation, axiom, sorry.
-/
import Derived.Test.YbulkcrjaChecked
import GoSem.Claim
import GoSem.ClaimJoined
import GoSem.ClaimMapViews
import Derived.JoinedTies
import Derived.KernelRfl
namespace Go.Proofs.Ybulkcrja
/- THE CELL 'sum', in the pinned program and in every row, IS THE sha256 OF THE DUMP (.gsa) THAT YbulkcrjaProg.lean LOADS. Nothing in Lean hashes anything: it is a label: what it is worth is what the hold of that sum in a sandbox is worth. -/
noncomputable def Yba.pinned : Pinned := { name := "ybulkcrja", sum := "3bd1576798a53a018cb439c2a0ec43c4e781e3aeb0084c9b490997452ca0173c", checked := Yba.checked }
namespace Rows
def none {H : Type} : Left H := { results := [], args := [] }

/-- 'batonring.LawS4654ARecordAndSignal': WHATEVER THE INPUT: true; the input reads as it did. -/
def lawS4654ARecordAndSignalSpec : ChangeSpec := { name := "lawS4654ARecordAndSignal", fn := fun _ => fun
  | [d1, d2, d3, d4, d5] => { results := [.lit (.bool true)], args := [d1, d2, d3, d4, d5] }
  | _ => none }
def lawS4654ARecordAndSignalRow : OpenClaim := { program := "ybulkcrja", sum := "3bd1576798a53a018cb439c2a0ec43c4e781e3aeb0084c9b490997452ca0173c", func := "example.com/batonring/batonring.LawS4654ARecordAndSignal", spec := "lawS4654ARecordAndSignal", inPlace := ["sync/atomic.StoreInt64", "sync/atomic.StoreUint32", "sync/atomic.SwapInt64", "sync/atomic.LoadUint32", "sync/atomic.LoadInt64"], apart := false }
def LawS4654ARecordAndSignalSaid : Prop := lawS4654ARecordAndSignalRow.holds Yba.pinned (OpenSpec.ofChange lawS4654ARecordAndSignalSpec)

/-- ITS FALSE NEIGHBOUR: 'it returns false'. Refute it at one input. -/
def lawS4654ARecordAndSignalWrong : ChangeSpec := { name := "lawS4654ARecordAndSignal", fn := fun _ => fun
  | [d1, d2, d3, d4, d5] => { results := [.lit (.bool false)], args := [d1, d2, d3, d4, d5] }
  | _ => none }
def LawS4654ARecordAndSignalWrongFalsely : Prop := lawS4654ARecordAndSignalRow.holds Yba.pinned (OpenSpec.ofChange lawS4654ARecordAndSignalWrong)

/-- 'batonring.LawS4654ALastHeard': WHATEVER THE INPUT: true; the input reads as it did. -/
def lawS4654ALastHeardSpec : ChangeSpec := { name := "lawS4654ALastHeard", fn := fun _ => fun
  | [d1, d2, d3, d4] => { results := [.lit (.bool true)], args := [d1, d2, d3, d4] }
  | _ => none }
def lawS4654ALastHeardRow : OpenClaim := { program := "ybulkcrja", sum := "3bd1576798a53a018cb439c2a0ec43c4e781e3aeb0084c9b490997452ca0173c", func := "example.com/batonring/batonring.LawS4654ALastHeard", spec := "lawS4654ALastHeard", inPlace := ["sync/atomic.StoreInt64", "sync/atomic.StoreUint32", "sync/atomic.SwapInt64", "sync/atomic.LoadUint32", "sync/atomic.LoadInt64"], apart := false }
def LawS4654ALastHeardSaid : Prop := lawS4654ALastHeardRow.holds Yba.pinned (OpenSpec.ofChange lawS4654ALastHeardSpec)

/-- ITS FALSE NEIGHBOUR: 'it returns false'. Refute it at one input. -/
def lawS4654ALastHeardWrong : ChangeSpec := { name := "lawS4654ALastHeard", fn := fun _ => fun
  | [d1, d2, d3, d4] => { results := [.lit (.bool false)], args := [d1, d2, d3, d4] }
  | _ => none }
def LawS4654ALastHeardWrongFalsely : Prop := lawS4654ALastHeardRow.holds Yba.pinned (OpenSpec.ofChange lawS4654ALastHeardWrong)

end Rows
end Go.Proofs.Ybulkcrja
