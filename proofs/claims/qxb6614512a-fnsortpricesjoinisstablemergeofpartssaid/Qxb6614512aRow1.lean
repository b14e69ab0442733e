/-
  The row of 'FnSortPricesJoinIsStableMergeOfParts', proved out of the law's walk.
-/
import Derived.Test.Qxb6614512aRows
import Derived.Test.Qxb6614512aOpen
import Derived.Test.Qxb6614512aLaw1
namespace Go.Proofs.Qxb6614512a
open Go.ChangeShapes Go.WideShapes Go.ChangeAt Go.RowKit

set_option maxRecDepth 100000 in
theorem join_lifted (os : Os) (started : os.Started) (H : Type) (enc : TypeId × Value → H) :
    ReturnsInHanded {} Try.checked os 3 .any (Rows.fnSortPricesJoinIsStableMergeOfPartsSpec.pre6 enc Try.prog Try.f3 Rows.fnSortPricesJoinIsStableMergeOfPartsRow.domain false) (Rows.fnSortPricesJoinIsStableMergeOfPartsSpec.post enc Try.prog Try.f3 false true false false) := by
  refine returnsInHanded_of_change (C := Try.checked) Try.own started (by kernel_rfl) Try.func3
    (ChangeSpec.witness6 (enc := enc) (C := Try.checked) false ⟨#[], #[.slice none 0 0, .slice none 0 0, .slice none 0 0, .slice none 0 0], []⟩ 8 (by kernel_rfl) (by kernel_rfl) (by kernel_rfl) (by kernel_rfl)) ?_
  intro W base args ds gs before hval0 hW _ _
  have hval : ∀ (j : Nat) t v, Try.f3.params[j]? = some t → args[j]? = some v → Value.okWide Try.prog W .any base t v := hval0
  have hW' := hW
  have hlt := hW.lt
  obtain ⟨p, q, hA0, hV, rfl, _, _⟩ := hW
  have hA : DataW.TrodAll enc Try.prog W 0 (fun _ => true) true Try.f3.params.toList args.toList ds p := hA0
  have hAll := hA
  rw [Try.params3] at hA hval
  obtain ⟨v0, v1, v2, v3, d0, d1, d2, d3, p0, p1, p2, p3, rfl, rfl, rfl, h0, h1, h2, h3⟩ := trodAll_four hA
  obtain ⟨rfl, rfl⟩ := trodVars_none hV
  obtain ⟨pA, nA, cA, sA, rfl, aA, lA, zA⟩ := open_arg (hval 0 22 v0 rfl rfl) h0
  obtain ⟨pB, nB, cB, sB, rfl, aB, lB, zB⟩ := open_arg (hval 1 22 v1 rfl rfl) h1
  obtain ⟨pC, nC, cC, sC, rfl, aC, lC, zC⟩ := open_arg (hval 2 22 v2 rfl rfl) h2
  obtain ⟨pD, nD, cD, sD, rfl, aD, lD, zD⟩ := open_arg (hval 3 22 v3 rfl rfl) h3
  have e1 : Rows.fnSortPricesJoinIsStableMergeOfPartsSpec.fn H ([d0, d1, d2, d3] ++ []) = { results := [.lit (.bool true)], args := [d0, d1, d2, d3] } := rfl
  refine (join_law pA nA cA sA pB nB cB sB pC nC cC sC pD nD cD sD W aA lA zA aB lB zB aC lC zC aD lD zD).mono fun e W' ⟨he, hb⟩ => ?_
  subst he
  refine ⟨_, rfl, _, _, _, [], p0 ++ p1 ++ p2 ++ p3, [], hW', ?_, ?_, ?_, hb.frame _, fun h => by cases h⟩
  · rw [e1]; exact trodAll_mk1 (shut_bool Try.underlying4 true)
  · rw [e1]; exact below_trodAll Try.laidOut hb (by kernel_rfl) hAll (fun x hx => hlt x (List.mem_append_left _ hx))
  · rw [e1]; rfl

theorem join_holds : Rows.FnSortPricesJoinIsStableMergeOfPartsSaid :=
  OpenClaim.holds_of_wide 3 Try.f3 rfl rfl rfl rfl rfl rfl rfl ⟨rfl, rfl, rfl, rfl, rfl⟩ rfl rfl rfl rfl rfl (by kernel_rfl) Try.func3 (by kernel_rfl)
    (of_decide_eq_true (by kernel_rfl)) (by unfold Func.isWrapper; rw [if_neg (of_decide_eq_false (by kernel_rfl))]; exact ⟨rfl, rfl⟩)
    (fun os started H enc _ => join_lifted os started H enc)

end Go.Proofs.Qxb6614512a
