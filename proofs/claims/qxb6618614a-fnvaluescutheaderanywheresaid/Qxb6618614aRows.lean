/-
  No cell of these rows narrows 'for every input' (looked for: loops, veiled, ifaces, maps, wideKeys, modest, calm, conditions, laid).
  DERIVED. THE GIVEN ROWS OF THIS SEAT. 1 by the template 'for every input the law returns true; each argument reads behind the call as it read before'; 0 by the template 'total and deterministic' (their statements: Qxb6618614aTotals.lean).
  GIVEN WITH THE SEED: the statements are not yours to turn. If you find one false, say at which input.
  Laid BY PROGRAM, IN A SANDBOX (cutbox-rows.mjs): the forced cells as the released guide's own fill.sh prints them over the translation d2870cd738a4d4d7… (all of the seat's roots in one cut). By AI agents, Wed Nov 11 2026. No macro, syntax, notation, axiom, sorry.
-/
import Derived.Test.Qxb6618614aChecked
import GoSem.Claim
import GoSem.ClaimJoined
import GoSem.ClaimMapViews
import Derived.JoinedTies
import Derived.KernelRfl
namespace Go.Proofs.Qxb6618614a
/- THE CELL 'sum', in the pinned program and in every row, IS THE sha256 OF THE DUMP (.gsa) THAT Qxb6618614aProg.lean LOADS. Nothing in Lean hashes anything: it is a label: what it is worth is what the hold of that sum in a sandbox is worth. -/
noncomputable def Try.pinned : Pinned := { name := "qxb6618614a", sum := "d2870cd738a4d4d7085b308835f0fece81e56ca8d05b9c6b73a9a865dedc2754", checked := Try.checked }
namespace Rows
def none {H : Type} : Left H := { results := [], args := [] }

/-- 'zzlaws_filter_b1.FnValuesCutHeaderAnywhere': WHATEVER THE INPUT: true; the input reads as it did. -/
def fnValuesCutHeaderAnywhereSpec : ChangeSpec := { name := "fnValuesCutHeaderAnywhere", fn := fun _ => fun
  | [d1, d2, d3, d4, d5, d6, d7, d8] => { results := [.lit (.bool true)], args := [d1, d2, d3, d4, d5, d6, d7, d8] }
  | _ => none }
def fnValuesCutHeaderAnywhereRow : OpenClaim := { program := "qxb6618614a", sum := "d2870cd738a4d4d7085b308835f0fece81e56ca8d05b9c6b73a9a865dedc2754", func := "example.com/mailstage/mailstage/zzlaws_filter_b1.FnValuesCutHeaderAnywhere", spec := "fnValuesCutHeaderAnywhere", unfollowed := true, recurses := true, apart := false }
def FnValuesCutHeaderAnywhereSaid : Prop := fnValuesCutHeaderAnywhereRow.holds Try.pinned (OpenSpec.ofChange fnValuesCutHeaderAnywhereSpec)

/-- ITS FALSE NEIGHBOUR: 'it returns false'. Refute it at one input. -/
def fnValuesCutHeaderAnywhereWrong : ChangeSpec := { name := "fnValuesCutHeaderAnywhere", fn := fun _ => fun
  | [d1, d2, d3, d4, d5, d6, d7, d8] => { results := [.lit (.bool false)], args := [d1, d2, d3, d4, d5, d6, d7, d8] }
  | _ => none }
def FnValuesCutHeaderAnywhereWrongFalsely : Prop := fnValuesCutHeaderAnywhereRow.holds Try.pinned (OpenSpec.ofChange fnValuesCutHeaderAnywhereWrong)

end Rows
end Go.Proofs.Qxb6618614a
