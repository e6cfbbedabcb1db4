/-
  DERIVED. GIVEN WITH THE SEED: THE CARDS: each row of Qxb6612421aFmtRows.lean that lists a variable, with what it lists TIED to the program's text (the seventh form; the later family's looks); each row that meets fmt, with fmt's text TOLD by the authors' own Lean function (tested against real Go, not proved from fmt's source: count such statements apart). THE CARD IS WHAT COUNTS. Prove the row's statement (the work); the ties are given (Qxb6612421aFmtTie.lean); close each card by the builder's one call (the guide's Derived/Test/ToyasCard.lean, 'card_holds'). Laid BY PROGRAM, IN A SANDBOX (cutbox-door.mjs). By AI agents, Wed Nov 11 2026. No macro, syntax, notation, axiom, sorry.
-/
import Derived.Test.Qxb6612421aFmtRows
import GoSem.ClaimSeven
namespace Go.Proofs.Qxb6612421aFmt
namespace Rows

/-- THE TOLD AND TIED CARD OF 'zzlaws_root_b1.FnInvalidObjectIDWrapsSentinelDirectly'. -/
def fnInvalidObjectIDWrapsSentinelDirectlyCard : Claim7 := { stood := { row := fnInvalidObjectIDWrapsSentinelDirectlyRow, standIns := [], harness := (true, "20daeb077ad2ffc5a679b0cc2c250d76bb562067a4fdcce599a7c3a2e6253b60"), looks := true }, told := true, laidByText := true, laidKinds := [.data, .sentinel, .pinned, .pinned, .pinned, .pinned, .pinned, .pinned], laidTests := true, laidLooks := .later, goes := false }
def FnInvalidObjectIDWrapsSentinelDirectlyToldSaid : Prop := Claim7.holds Tryf.pinned (.plain (OpenSpec.ofChange fnInvalidObjectIDWrapsSentinelDirectlySpec)) fnInvalidObjectIDWrapsSentinelDirectlyCard
/-- ITS FALSE NEIGHBOUR. Refute it at one input. -/
def FnInvalidObjectIDWrapsSentinelDirectlyToldWrongFalsely : Prop := Claim7.holds Tryf.pinned (.plain (OpenSpec.ofChange fnInvalidObjectIDWrapsSentinelDirectlyWrong)) fnInvalidObjectIDWrapsSentinelDirectlyCard

/-- THE TOLD CARD OF 'zzlaws_root_b1.FnValidateDefaultsAndOverrides'. -/
def fnValidateDefaultsAndOverridesCard : Claim7 := { stood := { row := fnValidateDefaultsAndOverridesRow, standIns := [], harness := (true, "20daeb077ad2ffc5a679b0cc2c250d76bb562067a4fdcce599a7c3a2e6253b60"), looks := true }, told := true, goes := false }
def FnValidateDefaultsAndOverridesToldSaid : Prop := Claim7.holds Tryf.pinned (.plain (OpenSpec.ofChange fnValidateDefaultsAndOverridesSpec)) fnValidateDefaultsAndOverridesCard
/-- ITS FALSE NEIGHBOUR. Refute it at one input. -/
def FnValidateDefaultsAndOverridesToldWrongFalsely : Prop := Claim7.holds Tryf.pinned (.plain (OpenSpec.ofChange fnValidateDefaultsAndOverridesWrong)) fnValidateDefaultsAndOverridesCard
end Rows
end Go.Proofs.Qxb6612421aFmt
