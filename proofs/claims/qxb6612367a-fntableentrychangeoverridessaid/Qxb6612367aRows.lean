/-
  No cell of these rows narrows 'for every input' (looked for: loops, veiled, ifaces, maps, wideKeys, modest, calm, conditions, laid).
  DERIVED. THE GIVEN ROWS OF THIS SEAT. 2 by the template 'for every input the law returns true; each argument reads behind the call as it read before'; 0 by the template 'total and deterministic' (their statements: Qxb6612367aTotals.lean).
  GIVEN WITH THE SEED: the statements are not yours to turn. If you find one false, say at which input.
  Laid BY PROGRAM, IN A SANDBOX (cutbox-rows.mjs): the forced cells as the released guide's own fill.sh prints them over the translation 663aac8fc1115dde… (all of the seat's roots in one cut). By AI agents, Wed Nov 11 2026. No macro, syntax, notation, axiom, sorry.
-/
import Derived.Test.Qxb6612367aChecked
import GoSem.Claim
import GoSem.ClaimJoined
import GoSem.ClaimMapViews
import Derived.JoinedTies
import Derived.KernelRfl
namespace Go.Proofs.Qxb6612367a
/- THE CELL 'sum', in the pinned program and in every row, IS THE sha256 OF THE DUMP (.gsa) THAT Qxb6612367aProg.lean LOADS. Nothing in Lean hashes anything: it is a label: what it is worth is what the hold of that sum in a sandbox is worth. -/
noncomputable def Try.pinned : Pinned := { name := "qxb6612367a", sum := "663aac8fc1115dde2296dd92a192aeeb8d2e7130f444383020587f19dc1ef53e", checked := Try.checked }
namespace Rows
def none {H : Type} : Left H := { results := [], args := [] }

/-- 'zzlaws_lists_b1.FnTableEntryMatchesScan': WHATEVER THE INPUT: true; the input reads as it did. -/
def fnTableEntryMatchesScanSpec : ChangeSpec := { name := "fnTableEntryMatchesScan", fn := fun _ => fun
  | [d1, d2, d3, d4] => { results := [.lit (.bool true)], args := [d1, d2, d3, d4] }
  | _ => none }
def fnTableEntryMatchesScanRow : OpenClaim := { program := "qxb6612367a", sum := "663aac8fc1115dde2296dd92a192aeeb8d2e7130f444383020587f19dc1ef53e", func := "example.com/greyward/greyward/zzlaws_lists_b1.FnTableEntryMatchesScan", spec := "fnTableEntryMatchesScan", unfollowed := true, recurses := true, apart := false }
def FnTableEntryMatchesScanSaid : Prop := fnTableEntryMatchesScanRow.holds Try.pinned (OpenSpec.ofChange fnTableEntryMatchesScanSpec)

/-- ITS FALSE NEIGHBOUR: 'it returns false'. Refute it at one input. -/
def fnTableEntryMatchesScanWrong : ChangeSpec := { name := "fnTableEntryMatchesScan", fn := fun _ => fun
  | [d1, d2, d3, d4] => { results := [.lit (.bool false)], args := [d1, d2, d3, d4] }
  | _ => none }
def FnTableEntryMatchesScanWrongFalsely : Prop := fnTableEntryMatchesScanRow.holds Try.pinned (OpenSpec.ofChange fnTableEntryMatchesScanWrong)

/-- 'zzlaws_lists_b1.FnTableEntryChangeOverrides': WHATEVER THE INPUT: true; the input reads as it did. -/
def fnTableEntryChangeOverridesSpec : ChangeSpec := { name := "fnTableEntryChangeOverrides", fn := fun _ => fun
  | [d1, d2, d3, d4] => { results := [.lit (.bool true)], args := [d1, d2, d3, d4] }
  | _ => none }
def fnTableEntryChangeOverridesRow : OpenClaim := { program := "qxb6612367a", sum := "663aac8fc1115dde2296dd92a192aeeb8d2e7130f444383020587f19dc1ef53e", func := "example.com/greyward/greyward/zzlaws_lists_b1.FnTableEntryChangeOverrides", spec := "fnTableEntryChangeOverrides", unfollowed := true, recurses := true, apart := false }
def FnTableEntryChangeOverridesSaid : Prop := fnTableEntryChangeOverridesRow.holds Try.pinned (OpenSpec.ofChange fnTableEntryChangeOverridesSpec)

/-- ITS FALSE NEIGHBOUR: 'it returns false'. Refute it at one input. -/
def fnTableEntryChangeOverridesWrong : ChangeSpec := { name := "fnTableEntryChangeOverrides", fn := fun _ => fun
  | [d1, d2, d3, d4] => { results := [.lit (.bool false)], args := [d1, d2, d3, d4] }
  | _ => none }
def FnTableEntryChangeOverridesWrongFalsely : Prop := fnTableEntryChangeOverridesRow.holds Try.pinned (OpenSpec.ofChange fnTableEntryChangeOverridesWrong)

end Rows
end Go.Proofs.Qxb6612367a
