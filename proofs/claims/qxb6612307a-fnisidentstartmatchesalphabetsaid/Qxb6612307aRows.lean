/-
  No cell of these rows narrows 'for every input' (looked for: loops, veiled, ifaces, maps, wideKeys, modest, calm, conditions, laid).
  DERIVED. THE GIVEN ROWS OF THIS SEAT. 2 by the template 'for every input the law returns true; each argument reads behind the call as it read before'; 0 by the template 'total and deterministic' (their statements: Qxb6612307aTotals.lean).
  GIVEN WITH THE SEED: the statements are not yours to turn. If you find one false, say at which input.
  Laid BY PROGRAM, IN A SANDBOX (cutbox-rows.mjs): the forced cells as the released guide's own fill.sh prints them over the translation 8d69ec7f6469157c… (all of the seat's roots in one cut). By AI agents, Wed Nov 11 2026. No macro, syntax, notation, axiom, sorry.
-/
import Derived.Test.Qxb6612307aChecked
import GoSem.Claim
import GoSem.ClaimJoined
import GoSem.ClaimMapViews
import Derived.JoinedTies
import Derived.KernelRfl
namespace Go.Proofs.Qxb6612307a
/- THE CELL 'sum', in the pinned program and in every row, IS THE sha256 OF THE DUMP (.gsa) THAT Qxb6612307aProg.lean LOADS. Nothing in Lean hashes anything: it is a label: what it is worth is what the hold of that sum in a sandbox is worth. -/
noncomputable def Try.pinned : Pinned := { name := "qxb6612307a", sum := "8d69ec7f6469157c5dc4f78d15bb0868a194717869da063c2b044ec63d5eb21b", checked := Try.checked }
namespace Rows
def none {H : Type} : Left H := { results := [], args := [] }

/-- 'zzlaws_internal_syntax_b1.FnIsIdentStartMatchesAlphabet': WHATEVER THE INPUT: true; the input reads as it did. -/
def fnIsIdentStartMatchesAlphabetSpec : ChangeSpec := { name := "fnIsIdentStartMatchesAlphabet", fn := fun _ => fun
  | [d] => { results := [.lit (.bool true)], args := [d] }
  | _ => none }
def fnIsIdentStartMatchesAlphabetRow : OpenClaim := { program := "qxb6612307a", sum := "8d69ec7f6469157c5dc4f78d15bb0868a194717869da063c2b044ec63d5eb21b", func := "example.com/package-expression-evaluator/package-expression-evaluator/zzlaws_internal_syntax_b1.FnIsIdentStartMatchesAlphabet", spec := "fnIsIdentStartMatchesAlphabet", apart := false }
def FnIsIdentStartMatchesAlphabetSaid : Prop := fnIsIdentStartMatchesAlphabetRow.holds Try.pinned (OpenSpec.ofChange fnIsIdentStartMatchesAlphabetSpec)

/-- ITS FALSE NEIGHBOUR: 'it returns false'. Refute it at one input. -/
def fnIsIdentStartMatchesAlphabetWrong : ChangeSpec := { name := "fnIsIdentStartMatchesAlphabet", fn := fun _ => fun
  | [d] => { results := [.lit (.bool false)], args := [d] }
  | _ => none }
def FnIsIdentStartMatchesAlphabetWrongFalsely : Prop := fnIsIdentStartMatchesAlphabetRow.holds Try.pinned (OpenSpec.ofChange fnIsIdentStartMatchesAlphabetWrong)

/-- 'zzlaws_internal_syntax_b1.FnIsIdentStartRankClosedForm': WHATEVER THE INPUT: true; the input reads as it did. -/
def fnIsIdentStartRankClosedFormSpec : ChangeSpec := { name := "fnIsIdentStartRankClosedForm", fn := fun _ => fun
  | [d] => { results := [.lit (.bool true)], args := [d] }
  | _ => none }
def fnIsIdentStartRankClosedFormRow : OpenClaim := { program := "qxb6612307a", sum := "8d69ec7f6469157c5dc4f78d15bb0868a194717869da063c2b044ec63d5eb21b", func := "example.com/package-expression-evaluator/package-expression-evaluator/zzlaws_internal_syntax_b1.FnIsIdentStartRankClosedForm", spec := "fnIsIdentStartRankClosedForm", apart := false }
def FnIsIdentStartRankClosedFormSaid : Prop := fnIsIdentStartRankClosedFormRow.holds Try.pinned (OpenSpec.ofChange fnIsIdentStartRankClosedFormSpec)

/-- ITS FALSE NEIGHBOUR: 'it returns false'. Refute it at one input. -/
def fnIsIdentStartRankClosedFormWrong : ChangeSpec := { name := "fnIsIdentStartRankClosedForm", fn := fun _ => fun
  | [d] => { results := [.lit (.bool false)], args := [d] }
  | _ => none }
def FnIsIdentStartRankClosedFormWrongFalsely : Prop := fnIsIdentStartRankClosedFormRow.holds Try.pinned (OpenSpec.ofChange fnIsIdentStartRankClosedFormWrong)

end Rows
end Go.Proofs.Qxb6612307a
