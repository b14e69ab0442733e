/-
  No cell of these rows narrows 'for every input' (looked for: loops, veiled, ifaces, maps, wideKeys, modest, calm, conditions, laid).
  DERIVED. THE GIVEN ROWS OF THIS SEAT. 2 by the template 'for every input the law returns true; each argument reads behind the call as it read before'; 0 by the template 'total and deterministic' (their statements: Qxb6614512aTotals.lean).
  GIVEN WITH THE SEED: the statements are not yours to turn. If you find one false, say at which input.
  Laid BY PROGRAM, IN A SANDBOX (cutbox-rows.mjs): the forced cells as the released guide's own fill.sh prints them over the translation aa3cad51730bd3f6… (all of the seat's roots in one cut). By AI agents, Wed Nov 11 2026. No macro, syntax, notation, axiom, sorry.
-/
import Derived.Test.Qxb6614512aChecked
import GoSem.Claim
import GoSem.ClaimJoined
import GoSem.ClaimMapViews
import Derived.JoinedTies
import Derived.KernelRfl
namespace Go.Proofs.Qxb6614512a
/- THE CELL 'sum', in the pinned program and in every row, IS THE sha256 OF THE DUMP (.gsa) THAT Qxb6614512aProg.lean LOADS. Nothing in Lean hashes anything: it is a label: what it is worth is what the hold of that sum in a sandbox is worth. -/
noncomputable def Try.pinned : Pinned := { name := "qxb6614512a", sum := "aa3cad51730bd3f6b482c460a2ee7740f774197ca7ca1321d22a7619a479a252", checked := Try.checked }
namespace Rows
def none {H : Type} : Left H := { results := [], args := [] }

/-- 'zzlaws_pkg_terms_b1.FnSortPricesJoinIsStableMergeOfParts': WHATEVER THE INPUT: true; the input reads as it did. -/
def fnSortPricesJoinIsStableMergeOfPartsSpec : ChangeSpec := { name := "fnSortPricesJoinIsStableMergeOfParts", fn := fun _ => fun
  | [d1, d2, d3, d4] => { results := [.lit (.bool true)], args := [d1, d2, d3, d4] }
  | _ => none }
def fnSortPricesJoinIsStableMergeOfPartsRow : OpenClaim := { program := "qxb6614512a", sum := "aa3cad51730bd3f6b482c460a2ee7740f774197ca7ca1321d22a7619a479a252", func := "example.com/gonggao/gonggao/zzlaws_pkg_terms_b1.FnSortPricesJoinIsStableMergeOfParts", spec := "fnSortPricesJoinIsStableMergeOfParts", inPlace := ["internal/bytealg.abigen_runtime_cmpstring"], unfollowed := true, recurses := true, apart := false }
def FnSortPricesJoinIsStableMergeOfPartsSaid : Prop := fnSortPricesJoinIsStableMergeOfPartsRow.holds Try.pinned (OpenSpec.ofChange fnSortPricesJoinIsStableMergeOfPartsSpec)

/-- ITS FALSE NEIGHBOUR: 'it returns false'. Refute it at one input. -/
def fnSortPricesJoinIsStableMergeOfPartsWrong : ChangeSpec := { name := "fnSortPricesJoinIsStableMergeOfParts", fn := fun _ => fun
  | [d1, d2, d3, d4] => { results := [.lit (.bool false)], args := [d1, d2, d3, d4] }
  | _ => none }
def FnSortPricesJoinIsStableMergeOfPartsWrongFalsely : Prop := fnSortPricesJoinIsStableMergeOfPartsRow.holds Try.pinned (OpenSpec.ofChange fnSortPricesJoinIsStableMergeOfPartsWrong)

/-- 'zzlaws_pkg_terms_b1.FnSortPricesOneEntryInsertedAnywhere': WHATEVER THE INPUT: true; the input reads as it did. -/
def fnSortPricesOneEntryInsertedAnywhereSpec : ChangeSpec := { name := "fnSortPricesOneEntryInsertedAnywhere", fn := fun _ => fun
  | [d1, d2, d3, d4, d5] => { results := [.lit (.bool true)], args := [d1, d2, d3, d4, d5] }
  | _ => none }
def fnSortPricesOneEntryInsertedAnywhereRow : OpenClaim := { program := "qxb6614512a", sum := "aa3cad51730bd3f6b482c460a2ee7740f774197ca7ca1321d22a7619a479a252", func := "example.com/gonggao/gonggao/zzlaws_pkg_terms_b1.FnSortPricesOneEntryInsertedAnywhere", spec := "fnSortPricesOneEntryInsertedAnywhere", inPlace := ["internal/bytealg.abigen_runtime_cmpstring"], unfollowed := true, recurses := true, apart := false }
def FnSortPricesOneEntryInsertedAnywhereSaid : Prop := fnSortPricesOneEntryInsertedAnywhereRow.holds Try.pinned (OpenSpec.ofChange fnSortPricesOneEntryInsertedAnywhereSpec)

/-- ITS FALSE NEIGHBOUR: 'it returns false'. Refute it at one input. -/
def fnSortPricesOneEntryInsertedAnywhereWrong : ChangeSpec := { name := "fnSortPricesOneEntryInsertedAnywhere", fn := fun _ => fun
  | [d1, d2, d3, d4, d5] => { results := [.lit (.bool false)], args := [d1, d2, d3, d4, d5] }
  | _ => none }
def FnSortPricesOneEntryInsertedAnywhereWrongFalsely : Prop := fnSortPricesOneEntryInsertedAnywhereRow.holds Try.pinned (OpenSpec.ofChange fnSortPricesOneEntryInsertedAnywhereWrong)

end Rows
end Go.Proofs.Qxb6614512a
