/-
  NARROWER THAN 'FOR EVERY INPUT', by the rows' own cells (each row's printed sentence says how): FnInvalidObjectIDWrapsSentinelDirectly: ifaces, laid.
  DERIVED. THE GIVEN ROWS OF THIS SEAT. 2 by the template 'for every input the law returns true; each argument reads behind the call as it read before'; 0 by the template 'total and deterministic' (their statements: Qxb6612421aFmtTotals.lean).
  GIVEN WITH THE SEED: the statements are not yours to turn. If you find one false, say at which input.
  Laid BY PROGRAM, IN A SANDBOX (cutbox-rows.mjs): the forced cells as the released guide's own fill.sh prints them over the translation e9df2c46a4568c12… (all of the seat's roots in one cut). By AI agents, Wed Nov 11 2026. No macro, syntax, notation, axiom, sorry.
-/
import Derived.Test.Qxb6612421aFmtChecked
import GoSem.PinnedTables
import GoSem.Claim
import GoSem.ClaimJoined
import GoSem.ClaimMapViews
import Derived.JoinedTies
import Derived.KernelRfl
namespace Go.Proofs.Qxb6612421aFmt
/- THE CELL 'sum', in the pinned program and in every row, IS THE sha256 OF THE DUMP (.gsa) THAT Qxb6612421aFmtProg.lean LOADS. Nothing in Lean hashes anything: it is a label: what it is worth is what the hold of that sum in a sandbox is worth. -/
noncomputable def Tryf.pinned : Pinned := { name := "qxb6612421afmt", sum := "e9df2c46a4568c12cf1d782295ec7be1e130194421c9c7148fb655ecb884a39c", checked := Tryf.checked }
namespace Rows
def none {H : Type} : Left H := { results := [], args := [] }

/- WHAT THE LISTED PACKAGE-LEVEL VARIABLES READ AS WHEN THE CALL BEGINS. Each datum BY PROGRAM (the guide's laid-datum.mjs) off the statement by which the dump's own 'gosem.cut.vars' lays the variable. In a bare row this is a premise. The card (Qxb6612421aFmtCards.lean) ties it to the program's text. -/
def laid_unicode_utf8_acceptRanges {H : Type} : DataW H := .agg [.agg [.lit (.int .u8 128), .lit (.int .u8 191)], .agg [.lit (.int .u8 160), .lit (.int .u8 191)], .agg [.lit (.int .u8 128), .lit (.int .u8 159)], .agg [.lit (.int .u8 144), .lit (.int .u8 191)], .agg [.lit (.int .u8 128), .lit (.int .u8 143)], .agg [.lit (.int .u8 0), .lit (.int .u8 0)], .agg [.lit (.int .u8 0), .lit (.int .u8 0)], .agg [.lit (.int .u8 0), .lit (.int .u8 0)], .agg [.lit (.int .u8 0), .lit (.int .u8 0)], .agg [.lit (.int .u8 0), .lit (.int .u8 0)], .agg [.lit (.int .u8 0), .lit (.int .u8 0)], .agg [.lit (.int .u8 0), .lit (.int .u8 0)], .agg [.lit (.int .u8 0), .lit (.int .u8 0)], .agg [.lit (.int .u8 0), .lit (.int .u8 0)], .agg [.lit (.int .u8 0), .lit (.int .u8 0)], .agg [.lit (.int .u8 0), .lit (.int .u8 0)]]
def laid_example_com_packloom_packloom_ErrInvalidObjectID {H : Type} : DataW H := .iface "*errors.errorString" (.ptr (.agg [.lit (.string [110, 111, 116, 32, 97, 110, 32, 111, 98, 106, 101, 99, 116, 32, 105, 100])]))
/-- One of Go's own tables, pinned by name: the form's constant. -/
def laid_strconv_isGraphic : DataW Unit := Go.Pinned.isGraphic
/-- One of Go's own tables, pinned by name: the form's constant. -/
def laid_strconv_isNotPrint16 : DataW Unit := Go.Pinned.isNotPrint16
/-- One of Go's own tables, pinned by name: the form's constant. -/
def laid_strconv_isNotPrint32 : DataW Unit := Go.Pinned.isNotPrint32
/-- One of Go's own tables, pinned by name: the form's constant. -/
def laid_strconv_isPrint16 : DataW Unit := Go.Pinned.isPrint16
/-- One of Go's own tables, pinned by name: the form's constant. -/
def laid_strconv_isPrint32 : DataW Unit := Go.Pinned.isPrint32
/-- One of Go's own tables, pinned by name: the form's constant. -/
def laid_unicode_utf8_first : DataW Unit := Go.Pinned.utf8First

/-- 'zzlaws_root_b1.FnInvalidObjectIDWrapsSentinelDirectly': WHATEVER THE INPUT: true; the input reads as it did. -/
def fnInvalidObjectIDWrapsSentinelDirectlySpec : ChangeSpec := { name := "fnInvalidObjectIDWrapsSentinelDirectly", vars := ["example.com/packloom/packloom.ErrInvalidObjectID"], fn := fun _ => fun
  | [d, g1] => { results := [.lit (.bool true)], args := [d], vars := [g1] }
  | _ => none }
def fnInvalidObjectIDWrapsSentinelDirectlyRow : OpenClaim := { program := "qxb6612421afmt", sum := "e9df2c46a4568c12cf1d782295ec7be1e130194421c9c7148fb655ecb884a39c", func := "example.com/packloom/packloom/zzlaws_root_b1.FnInvalidObjectIDWrapsSentinelDirectly", spec := "fnInvalidObjectIDWrapsSentinelDirectly", stops := ["fmt.errorf"], inPlace := ["fmt.errorf", "internal/reflectlite.TypeOf"], unfollowed := true, recurses := true, named := ["example.com/packloom/packloom.ErrInvalidObjectID", "unicode/utf8.first", "unicode/utf8.acceptRanges", "strconv.isPrint16", "strconv.isNotPrint16", "strconv.isPrint32", "strconv.isNotPrint32", "strconv.isGraphic"], ifaces := true, apart := false, laid := [("unicode/utf8.acceptRanges", laid_unicode_utf8_acceptRanges), ("example.com/packloom/packloom.ErrInvalidObjectID", laid_example_com_packloom_packloom_ErrInvalidObjectID), ("strconv.isGraphic", laid_strconv_isGraphic), ("strconv.isNotPrint16", laid_strconv_isNotPrint16), ("strconv.isNotPrint32", laid_strconv_isNotPrint32), ("strconv.isPrint16", laid_strconv_isPrint16), ("strconv.isPrint32", laid_strconv_isPrint32), ("unicode/utf8.first", laid_unicode_utf8_first)] }
/-- NO THEOREM (fmt's text is open here; it may be false): for the released tool's asking of the row's closed facts alone. THE STATEMENT IS 'FnInvalidObjectIDWrapsSentinelDirectlyToldSaid' (Qxb6612421aFmtCards.lean). -/
def FnInvalidObjectIDWrapsSentinelDirectlyFormAsk : Prop := fnInvalidObjectIDWrapsSentinelDirectlyRow.holds Tryf.pinned (OpenSpec.ofChange fnInvalidObjectIDWrapsSentinelDirectlySpec)

/-- ITS FALSE NEIGHBOUR: 'it returns false'. Refute it at one input. -/
def fnInvalidObjectIDWrapsSentinelDirectlyWrong : ChangeSpec := { name := "fnInvalidObjectIDWrapsSentinelDirectly", vars := ["example.com/packloom/packloom.ErrInvalidObjectID"], fn := fun _ => fun
  | [d, g1] => { results := [.lit (.bool false)], args := [d], vars := [g1] }
  | _ => none }
def FnInvalidObjectIDWrapsSentinelDirectlyWrongFormAsk : Prop := fnInvalidObjectIDWrapsSentinelDirectlyRow.holds Tryf.pinned (OpenSpec.ofChange fnInvalidObjectIDWrapsSentinelDirectlyWrong)

/-- 'zzlaws_root_b1.FnValidateDefaultsAndOverrides': WHATEVER THE INPUT: true; the input reads as it did. -/
def fnValidateDefaultsAndOverridesSpec : ChangeSpec := { name := "fnValidateDefaultsAndOverrides", fn := fun _ => fun
  | [d1, d2] => { results := [.lit (.bool true)], args := [d1, d2] }
  | _ => none }
def fnValidateDefaultsAndOverridesRow : OpenClaim := { program := "qxb6612421afmt", sum := "e9df2c46a4568c12cf1d782295ec7be1e130194421c9c7148fb655ecb884a39c", func := "example.com/packloom/packloom/zzlaws_root_b1.FnValidateDefaultsAndOverrides", spec := "fnValidateDefaultsAndOverrides", stops := ["fmt.errorf"], inPlace := ["fmt.errorf"], apart := false }
/-- NO THEOREM (fmt's text is open here; it may be false): for the released tool's asking of the row's closed facts alone. THE STATEMENT IS 'FnValidateDefaultsAndOverridesToldSaid' (Qxb6612421aFmtCards.lean). -/
def FnValidateDefaultsAndOverridesFormAsk : Prop := fnValidateDefaultsAndOverridesRow.holds Tryf.pinned (OpenSpec.ofChange fnValidateDefaultsAndOverridesSpec)

/-- ITS FALSE NEIGHBOUR: 'it returns false'. Refute it at one input. -/
def fnValidateDefaultsAndOverridesWrong : ChangeSpec := { name := "fnValidateDefaultsAndOverrides", fn := fun _ => fun
  | [d1, d2] => { results := [.lit (.bool false)], args := [d1, d2] }
  | _ => none }
def FnValidateDefaultsAndOverridesWrongFormAsk : Prop := fnValidateDefaultsAndOverridesRow.holds Tryf.pinned (OpenSpec.ofChange fnValidateDefaultsAndOverridesWrong)

end Rows
end Go.Proofs.Qxb6612421aFmt
