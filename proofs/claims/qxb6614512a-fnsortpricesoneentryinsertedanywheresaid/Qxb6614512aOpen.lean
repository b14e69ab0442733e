/-
  What the two rows' proofs share: a slice of strings opened; the arguments carried.
-/
import Derived.Test.Qxb6614512aRows
import Derived.Test.Qxb6614512aTools
import Derived.ProofKit
import Derived.SliceStrings
namespace Go.Proofs.Qxb6614512a
open Go.ChangeShapes Go.WideShapes Go.ChangeAt Go.RowKit

theorem Try.own : ownKnob Try.prog.godebug = none := by kernel_rfl
theorem Try.laidOut : laidOutB Try.prog = true := by kernel_rfl
theorem Try.cells9 : Try.prog.cellsOf 9 = 1 := by kernel_rfl

/-- The arguments read behind the call as they read before it. -/
theorem below_trodAll {H : Type} {enc : TypeId × Value → H} {P : Program} (hl : laidOutB P = true) {W W' : World} (hb : Below W.heap.size W W') :
    ∀ {ts : List TypeId} {vs : List Value} {ds : List (DataW H)} {ps : List MemPlace}, (ts.all fun t => P.readableRec t && decide (t < P.types.size)) = true → DataW.TrodAll enc P W 0 (fun _ => true) true ts vs ds ps → (∀ x ∈ ps, x.block < W.heap.size) →
      DataW.TrodAll enc P W' 0 (fun b => decide (b < W.heap.size)) true ts vs ds ps
  | [], [], [], _, _, h, _ => h
  | t :: ts, v :: vs, d :: ds, ps, ht, ⟨p, q, h1, h2, e⟩, hlt => by
    simp only [List.all_cons, Bool.and_eq_true, decide_eq_true_eq] at ht
    subst e
    exact ⟨p, q, Below.trod hl ht.1.1 ht.1.2 h1 hb (fun x hx => hlt x (by simp [hx])), below_trodAll hl hb ht.2 h2 (fun x hx => hlt x (by simp [hx])), rfl⟩

/-- A slice of strings that came in. -/
theorem open_arg {H : Type} {enc : TypeId × Value → H} {W : World} {base : Nat} {v : Value} {d : DataW H} {ps : List MemPlace} (hv : Value.okWide Try.prog W .any base 22 v) (h : DataW.Trod enc Try.prog W 0 (fun _ => true) true 22 v d ps) :
    ∃ (p : Option Addr) (n cap : Nat) (ss : Nat → ByteArray), v = .slice p n cap ∧ Arg p n cap ss W.heap.size W ∧ n ≤ 9223372036854775807 ∧ ∀ i, i < n → (ss i).size ≤ 9223372036854775807 := by
  obtain ⟨a0, len, cap, rfl⟩ := okWide_slice Try.underlying22 hv
  obtain ⟨fuel, hf⟩ := h
  rcases open_strings Try.underlying22 Try.underlying9 Try.cells9 hf with ⟨hcs, _⟩ | ⟨a, len', cap', ss, hcs, _, hl, hm, hz, _, hcell, hws⟩
  · simp [Value.cells] at hcs
    obtain ⟨rfl, rfl, rfl⟩ := hcs
    exact ⟨none, 0, 0, fun _ => ByteArray.empty, rfl, Or.inl ⟨rfl, rfl, rfl⟩, by omega, fun i hi => by omega⟩
  · simp [Value.cells] at hcs
    obtain ⟨rfl, rfl, rfl⟩ := hcs
    unfold maxLen at hm hws
    have hz' : ss.length = cap := by simpa using hz
    refine ⟨some a, len, cap, fun i => ss.getD i ByteArray.empty, rfl, ?_, by omega, fun i hi => ?_⟩
    · rcases Nat.eq_zero_or_pos len with h0 | h0
      · exact Or.inr (Or.inl ⟨a, rfl, h0⟩)
      · obtain ⟨b, off, spot⟩ := a
        have hspot : spot = none := by simpa [Addr.add] using World.cell?_spot (hcell 0 (by omega))
        subst hspot
        have hc0 : ∀ i, i < len → W.cell? ⟨b, off + i, none⟩ = some (.string (ss.getD i ByteArray.empty)) := fun i hi => by
          rw [← Go.WideShapes.add_plain]; exact hcell i (by omega)
        exact Or.inr (Or.inr ⟨b, off, rfl, World.block_lt_of_cell? _ _ (hc0 0 h0), hc0⟩)
    · have hi' : i < ss.length := by omega
      have : ss.getD i ByteArray.empty ∈ ss := by simp [List.getD, hi']
      exact hws _ this

end Go.Proofs.Qxb6614512a
