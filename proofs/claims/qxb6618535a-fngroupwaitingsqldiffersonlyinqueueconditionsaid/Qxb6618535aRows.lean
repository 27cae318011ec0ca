/-
  No cell of these rows narrows 'for every input' (looked for: loops, veiled, ifaces, maps, wideKeys, modest, calm, conditions, laid).
  DERIVED. THE GIVEN ROWS OF THIS SEAT. 4 by the template 'for every input the law returns true; each argument reads behind the call as it read before'; 0 by the template 'total and deterministic' (their statements: Qxb6618535aTotals.lean).
  GIVEN WITH THE SEED: the statements are not yours to turn. If you find one false, say at which input.
  Laid BY PROGRAM, IN A SANDBOX (cutbox-rows.mjs): the forced cells as the released guide's own fill.sh prints them over the translation e78ae564965e4727… (all of the seat's roots in one cut). By AI agents, Wed Nov 11 2026. No macro, syntax, notation, axiom, sorry.
-/
import Derived.Test.Qxb6618535aChecked
import GoSem.Claim
import GoSem.ClaimJoined
import GoSem.ClaimMapViews
import Derived.JoinedTies
import Derived.KernelRfl
namespace Go.Proofs.Qxb6618535a
/- THE CELL 'sum', in the pinned program and in every row, IS THE sha256 OF THE DUMP (.gsa) THAT Qxb6618535aProg.lean LOADS. Nothing in Lean hashes anything: it is a label: what it is worth is what the hold of that sum in a sandbox is worth. -/
noncomputable def Try.pinned : Pinned := { name := "qxb6618535a", sum := "e78ae564965e4727f51cb02bda0b8aea3c63af294fdca94896537b2b1f0712af", checked := Try.checked }
namespace Rows
def none {H : Type} : Left H := { results := [], args := [] }

/-- 'zzlaws_queue_b1.FnFairIDOrdersByBlockThenIndex': WHATEVER THE INPUT: true; the input reads as it did. -/
def fnFairIDOrdersByBlockThenIndexSpec : ChangeSpec := { name := "fnFairIDOrdersByBlockThenIndex", fn := fun _ => fun
  | [d1, d2, d3, d4] => { results := [.lit (.bool true)], args := [d1, d2, d3, d4] }
  | _ => none }
def fnFairIDOrdersByBlockThenIndexRow : OpenClaim := { program := "qxb6618535a", sum := "e78ae564965e4727f51cb02bda0b8aea3c63af294fdca94896537b2b1f0712af", func := "example.com/evenkeel/evenkeel/zzlaws_queue_b1.FnFairIDOrdersByBlockThenIndex", spec := "fnFairIDOrdersByBlockThenIndex", apart := false }
def FnFairIDOrdersByBlockThenIndexSaid : Prop := fnFairIDOrdersByBlockThenIndexRow.holds Try.pinned (OpenSpec.ofChange fnFairIDOrdersByBlockThenIndexSpec)

/-- ITS FALSE NEIGHBOUR: 'it returns false'. Refute it at one input. -/
def fnFairIDOrdersByBlockThenIndexWrong : ChangeSpec := { name := "fnFairIDOrdersByBlockThenIndex", fn := fun _ => fun
  | [d1, d2, d3, d4] => { results := [.lit (.bool false)], args := [d1, d2, d3, d4] }
  | _ => none }
def FnFairIDOrdersByBlockThenIndexWrongFalsely : Prop := fnFairIDOrdersByBlockThenIndexRow.holds Try.pinned (OpenSpec.ofChange fnFairIDOrdersByBlockThenIndexWrong)

/-- 'zzlaws_queue_b1.FnGroupWaitingSQLDiffersOnlyInQueueCondition': WHATEVER THE INPUT: true; the input reads as it did. -/
def fnGroupWaitingSQLDiffersOnlyInQueueConditionSpec : ChangeSpec := { name := "fnGroupWaitingSQLDiffersOnlyInQueueCondition", fn := fun _ => fun
  | [d1, d2, d3] => { results := [.lit (.bool true)], args := [d1, d2, d3] }
  | _ => none }
def fnGroupWaitingSQLDiffersOnlyInQueueConditionRow : OpenClaim := { program := "qxb6618535a", sum := "e78ae564965e4727f51cb02bda0b8aea3c63af294fdca94896537b2b1f0712af", func := "example.com/evenkeel/evenkeel/zzlaws_queue_b1.FnGroupWaitingSQLDiffersOnlyInQueueCondition", spec := "fnGroupWaitingSQLDiffersOnlyInQueueCondition", apart := false }
def FnGroupWaitingSQLDiffersOnlyInQueueConditionSaid : Prop := fnGroupWaitingSQLDiffersOnlyInQueueConditionRow.holds Try.pinned (OpenSpec.ofChange fnGroupWaitingSQLDiffersOnlyInQueueConditionSpec)

/-- ITS FALSE NEIGHBOUR: 'it returns false'. Refute it at one input. -/
def fnGroupWaitingSQLDiffersOnlyInQueueConditionWrong : ChangeSpec := { name := "fnGroupWaitingSQLDiffersOnlyInQueueCondition", fn := fun _ => fun
  | [d1, d2, d3] => { results := [.lit (.bool false)], args := [d1, d2, d3] }
  | _ => none }
def FnGroupWaitingSQLDiffersOnlyInQueueConditionWrongFalsely : Prop := fnGroupWaitingSQLDiffersOnlyInQueueConditionRow.holds Try.pinned (OpenSpec.ofChange fnGroupWaitingSQLDiffersOnlyInQueueConditionWrong)

/-- 'zzlaws_queue_b1.FnGroupWaitingSQLSplicesTableAndStatusVerbatim': WHATEVER THE INPUT: true; the input reads as it did. -/
def fnGroupWaitingSQLSplicesTableAndStatusVerbatimSpec : ChangeSpec := { name := "fnGroupWaitingSQLSplicesTableAndStatusVerbatim", fn := fun _ => fun
  | [d1, d2, d3] => { results := [.lit (.bool true)], args := [d1, d2, d3] }
  | _ => none }
def fnGroupWaitingSQLSplicesTableAndStatusVerbatimRow : OpenClaim := { program := "qxb6618535a", sum := "e78ae564965e4727f51cb02bda0b8aea3c63af294fdca94896537b2b1f0712af", func := "example.com/evenkeel/evenkeel/zzlaws_queue_b1.FnGroupWaitingSQLSplicesTableAndStatusVerbatim", spec := "fnGroupWaitingSQLSplicesTableAndStatusVerbatim", apart := false }
def FnGroupWaitingSQLSplicesTableAndStatusVerbatimSaid : Prop := fnGroupWaitingSQLSplicesTableAndStatusVerbatimRow.holds Try.pinned (OpenSpec.ofChange fnGroupWaitingSQLSplicesTableAndStatusVerbatimSpec)

/-- ITS FALSE NEIGHBOUR: 'it returns false'. Refute it at one input. -/
def fnGroupWaitingSQLSplicesTableAndStatusVerbatimWrong : ChangeSpec := { name := "fnGroupWaitingSQLSplicesTableAndStatusVerbatim", fn := fun _ => fun
  | [d1, d2, d3] => { results := [.lit (.bool false)], args := [d1, d2, d3] }
  | _ => none }
def FnGroupWaitingSQLSplicesTableAndStatusVerbatimWrongFalsely : Prop := fnGroupWaitingSQLSplicesTableAndStatusVerbatimRow.holds Try.pinned (OpenSpec.ofChange fnGroupWaitingSQLSplicesTableAndStatusVerbatimWrong)

/-- 'zzlaws_queue_b1.FnOnlyNamedAgreesWithGroupWaitingSQL': WHATEVER THE INPUT: true; the input reads as it did. -/
def fnOnlyNamedAgreesWithGroupWaitingSQLSpec : ChangeSpec := { name := "fnOnlyNamedAgreesWithGroupWaitingSQL", fn := fun _ => fun
  | [d1, d2, d3, d4] => { results := [.lit (.bool true)], args := [d1, d2, d3, d4] }
  | _ => none }
def fnOnlyNamedAgreesWithGroupWaitingSQLRow : OpenClaim := { program := "qxb6618535a", sum := "e78ae564965e4727f51cb02bda0b8aea3c63af294fdca94896537b2b1f0712af", func := "example.com/evenkeel/evenkeel/zzlaws_queue_b1.FnOnlyNamedAgreesWithGroupWaitingSQL", spec := "fnOnlyNamedAgreesWithGroupWaitingSQL", apart := false }
def FnOnlyNamedAgreesWithGroupWaitingSQLSaid : Prop := fnOnlyNamedAgreesWithGroupWaitingSQLRow.holds Try.pinned (OpenSpec.ofChange fnOnlyNamedAgreesWithGroupWaitingSQLSpec)

/-- ITS FALSE NEIGHBOUR: 'it returns false'. Refute it at one input. -/
def fnOnlyNamedAgreesWithGroupWaitingSQLWrong : ChangeSpec := { name := "fnOnlyNamedAgreesWithGroupWaitingSQL", fn := fun _ => fun
  | [d1, d2, d3, d4] => { results := [.lit (.bool false)], args := [d1, d2, d3, d4] }
  | _ => none }
def FnOnlyNamedAgreesWithGroupWaitingSQLWrongFalsely : Prop := fnOnlyNamedAgreesWithGroupWaitingSQLRow.holds Try.pinned (OpenSpec.ofChange fnOnlyNamedAgreesWithGroupWaitingSQLWrong)

end Rows
end Go.Proofs.Qxb6618535a
