/-
  NARROWER THAN 'FOR EVERY INPUT', by the rows' own cells (each row's printed sentence says how): FnNotReachedErrorUnwrapsToItsErr: ifaces, laid.
  DERIVED. THE GIVEN ROWS OF THIS SEAT. 1 by the template 'for every input the law returns true; each argument reads behind the call as it read before'; 0 by the template 'total and deterministic' (their statements: Qxb6614198aDoorTotals.lean).
  GIVEN WITH THE SEED: the statements are not yours to turn. If you find one false, say at which input.
  Laid BY PROGRAM, IN A SANDBOX (cutbox-rows.mjs): the forced cells as the released guide's own fill.sh prints them over the translation a9299aa8ed678c88… (all of the seat's roots in one cut). By AI agents, Wed Nov 11 2026. No macro, syntax, notation, axiom, sorry.
-/
import Derived.Test.Qxb6614198aDoorChecked
import GoSem.Claim
import GoSem.ClaimJoined
import GoSem.ClaimMapViews
import Derived.JoinedTies
import Derived.KernelRfl
namespace Go.Proofs.Qxb6614198aDoor
/- THE CELL 'sum', in the pinned program and in every row, IS THE sha256 OF THE DUMP (.gsa) THAT Qxb6614198aDoorProg.lean LOADS. Nothing in Lean hashes anything: it is a label: what it is worth is what the hold of that sum in a sandbox is worth. -/
noncomputable def Tryd.pinned : Pinned := { name := "qxb6614198adoor", sum := "a9299aa8ed678c88576175feec585ba86371190ef843fba0d3a3a15069ca772d", checked := Tryd.checked }
namespace Rows
def none {H : Type} : Left H := { results := [], args := [] }

/- WHAT THE LISTED PACKAGE-LEVEL VARIABLES READ AS WHEN THE CALL BEGINS. Each datum BY PROGRAM (the guide's laid-datum.mjs) off the statement by which the dump's own 'gosem.cut.vars' lays the variable. In a bare row this is a premise. The card (Qxb6614198aDoorCards.lean) ties it to the program's text. -/
def laid_example_com_kinkcurve_kinkcurve_errNilValue {H : Type} : DataW H := .iface "*errors.errorString" (.ptr (.agg [.lit (.string [116, 104, 101, 32, 118, 97, 108, 117, 101, 32, 115, 111, 108, 118, 101, 100, 32, 102, 111, 114, 32, 105, 115, 32, 110, 105, 108, 44, 32, 111, 114, 32, 114, 101, 97, 100, 115, 32, 110, 105, 108])]))
def laid_example_com_kinkcurve_kinkcurve_ErrBelowZero {H : Type} : DataW H := .iface "*errors.errorString" (.ptr (.agg [.lit (.string [103, 111, 101, 115, 32, 98, 101, 108, 111, 119, 32, 48])]))
def laid_example_com_kinkcurve_kinkcurve_ErrDivByZero {H : Type} : DataW H := .iface "*errors.errorString" (.ptr (.agg [.lit (.string [100, 105, 118, 105, 100, 101, 115, 32, 98, 121, 32, 48])]))

/-- 'zzlaws_root_b1.FnNotReachedErrorUnwrapsToItsErr': WHATEVER THE INPUT: true; the input reads as it did. -/
def fnNotReachedErrorUnwrapsToItsErrSpec : ChangeSpec := { name := "fnNotReachedErrorUnwrapsToItsErr", vars := ["example.com/kinkcurve/kinkcurve.ErrBelowZero", "example.com/kinkcurve/kinkcurve.ErrDivByZero", "example.com/kinkcurve/kinkcurve.errNilValue"], fn := fun _ => fun
  | [d1, d2, d3, d4, d5, g1, g2, g3] => { results := [.lit (.bool true)], args := [d1, d2, d3, d4, d5], vars := [g1, g2, g3] }
  | _ => none }
def fnNotReachedErrorUnwrapsToItsErrRow : OpenClaim := { program := "qxb6614198adoor", sum := "a9299aa8ed678c88576175feec585ba86371190ef843fba0d3a3a15069ca772d", func := "example.com/kinkcurve/kinkcurve/zzlaws_root_b1.FnNotReachedErrorUnwrapsToItsErr", spec := "fnNotReachedErrorUnwrapsToItsErr", inPlace := ["internal/reflectlite.TypeOf"], unfollowed := true, recurses := true, named := ["example.com/kinkcurve/kinkcurve.ErrBelowZero", "example.com/kinkcurve/kinkcurve.ErrDivByZero", "example.com/kinkcurve/kinkcurve.errNilValue"], ifaces := true, apart := false, laid := [("example.com/kinkcurve/kinkcurve.errNilValue", laid_example_com_kinkcurve_kinkcurve_errNilValue), ("example.com/kinkcurve/kinkcurve.ErrBelowZero", laid_example_com_kinkcurve_kinkcurve_ErrBelowZero), ("example.com/kinkcurve/kinkcurve.ErrDivByZero", laid_example_com_kinkcurve_kinkcurve_ErrDivByZero)] }
def FnNotReachedErrorUnwrapsToItsErrSaid : Prop := fnNotReachedErrorUnwrapsToItsErrRow.holds Tryd.pinned (OpenSpec.ofChange fnNotReachedErrorUnwrapsToItsErrSpec)

/-- ITS FALSE NEIGHBOUR: 'it returns false'. Refute it at one input. -/
def fnNotReachedErrorUnwrapsToItsErrWrong : ChangeSpec := { name := "fnNotReachedErrorUnwrapsToItsErr", vars := ["example.com/kinkcurve/kinkcurve.ErrBelowZero", "example.com/kinkcurve/kinkcurve.ErrDivByZero", "example.com/kinkcurve/kinkcurve.errNilValue"], fn := fun _ => fun
  | [d1, d2, d3, d4, d5, g1, g2, g3] => { results := [.lit (.bool false)], args := [d1, d2, d3, d4, d5], vars := [g1, g2, g3] }
  | _ => none }
def FnNotReachedErrorUnwrapsToItsErrWrongFalsely : Prop := fnNotReachedErrorUnwrapsToItsErrRow.holds Tryd.pinned (OpenSpec.ofChange fnNotReachedErrorUnwrapsToItsErrWrong)

end Rows
end Go.Proofs.Qxb6614198aDoor
