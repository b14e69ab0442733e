/-
  The row of 'FnSortPricesOneEntryInsertedAnywhere', proved out of the law's walk.
-/
import Derived.Test.Qxb6614512aRows
import Derived.Test.Qxb6614512aOpen
import Derived.Test.Qxb6614512aLaw2
namespace Go.Proofs.Qxb6614512a
open Go.ChangeShapes Go.WideShapes Go.ChangeAt Go.RowKit
open Go.ChangeMaps (open_string shut_string)

set_option maxRecDepth 100000 in
theorem insert_lifted (os : Os) (started : os.Started) (H : Type) (enc : TypeId × Value → H) :
    ReturnsInHanded {} Try.checked os 4 .any (Rows.fnSortPricesOneEntryInsertedAnywhereSpec.pre6 enc Try.prog Try.f4 Rows.fnSortPricesOneEntryInsertedAnywhereRow.domain false) (Rows.fnSortPricesOneEntryInsertedAnywhereSpec.post enc Try.prog Try.f4 false true false false) := by
  refine returnsInHanded_of_change (C := Try.checked) Try.own started (by kernel_rfl) Try.func4
    (ChangeSpec.witness6 (enc := enc) (C := Try.checked) false ⟨#[], #[.slice none 0 0, .slice none 0 0, .int .i64 0, .string ByteArray.empty, .string ByteArray.empty], []⟩ 8 (by kernel_rfl) (by kernel_rfl) (by kernel_rfl) (by kernel_rfl)) ?_
  intro W base args ds gs before hval0 hW _ _
  have hval : ∀ (j : Nat) t v, Try.f4.params[j]? = some t → args[j]? = some v → Value.okWide Try.prog W .any base t v := hval0
  have hW' := hW
  have hlt := hW.lt
  obtain ⟨p, q, hA0, hV, rfl, _, _⟩ := hW
  have hA : DataW.TrodAll enc Try.prog W 0 (fun _ => true) true Try.f4.params.toList args.toList ds p := hA0
  have hAll := hA
  rw [Try.params4] at hA hval
  obtain ⟨v0, vs0, d0, ds0, p0, q0, hargs, rfl, rfl, h0, r0⟩ := trodAll_cons hA
  obtain ⟨v1, vs1, d1, ds1, p1, q1, rfl, rfl, rfl, h1, r1⟩ := trodAll_cons r0
  obtain ⟨v2, vs2, d2, ds2, p2, q2, rfl, rfl, rfl, h2, r2⟩ := trodAll_cons r1
  obtain ⟨v3, vs3, d3, ds3, p3, q3, rfl, rfl, rfl, h3, r3⟩ := trodAll_cons r2
  obtain ⟨v4, vs4, d4, ds4, p4, q4, rfl, rfl, rfl, h4, r4⟩ := trodAll_cons r3
  obtain ⟨rfl, rfl, rfl⟩ := trodAll_nil r4
  obtain ⟨args⟩ := args
  simp only at hargs
  subst hargs
  obtain ⟨rfl, rfl⟩ := trodVars_none hV
  obtain ⟨pA, nA, cA, sA, rfl, aA, lA, zA⟩ := open_arg (hval 0 22 v0 rfl rfl) h0
  obtain ⟨pB, nB, cB, sB, rfl, aB, lB, zB⟩ := open_arg (hval 1 22 v1 rfl rfl) h1
  obtain ⟨at_, rfl, _, _, wat⟩ := open_int Try.underlying3 (hval 2 3 v2 rfl rfl) h2
  obtain ⟨xe, rfl, _, _, hxe⟩ := open_string Try.underlying9 (hval 3 9 v3 rfl rfl) h3
  obtain ⟨xp, rfl, _, _, hxp⟩ := open_string Try.underlying9 (hval 4 9 v4 rfl rfl) h4
  have hat : -9223372036854775808 ≤ at_ ∧ at_ ≤ 9223372036854775807 := by simpa [Lit.wf, IntKind.min, IntKind.max, IntKind.signed, IntKind.bits] using wat
  unfold maxLen at hxe hxp
  have e1 : Rows.fnSortPricesOneEntryInsertedAnywhereSpec.fn H ([d0, d1, d2, d3, d4] ++ []) = { results := [.lit (.bool true)], args := [d0, d1, d2, d3, d4] } := rfl
  refine (insert_law pA nA cA sA pB nB cB sB at_ xe xp W aA lA zA aB lB zB hxe hxp hat.1 hat.2).mono fun e W' ⟨he, hb⟩ => ?_
  subst he
  refine ⟨_, rfl, _, _, _, [], p0 ++ (p1 ++ (p2 ++ (p3 ++ (p4 ++ [])))), [], hW', ?_, ?_, ?_, hb.frame _, fun h => by cases h⟩
  · rw [e1]; exact trodAll_mk1 (shut_bool Try.underlying4 true)
  · rw [e1]; exact below_trodAll Try.laidOut hb (by kernel_rfl) hAll (fun x hx => hlt x (List.mem_append_left _ hx))
  · rw [e1]; rfl

theorem insert_holds : Rows.FnSortPricesOneEntryInsertedAnywhereSaid :=
  OpenClaim.holds_of_wide 4 Try.f4 rfl rfl rfl rfl rfl rfl rfl ⟨rfl, rfl, rfl, rfl, rfl⟩ rfl rfl rfl rfl rfl (by kernel_rfl) Try.func4 (by kernel_rfl)
    (of_decide_eq_true (by kernel_rfl)) (by unfold Func.isWrapper; rw [if_neg (of_decide_eq_false (by kernel_rfl))]; exact ⟨rfl, rfl⟩)
    (fun os started H enc _ => insert_lifted os started H enc)

end Go.Proofs.Qxb6614512a
