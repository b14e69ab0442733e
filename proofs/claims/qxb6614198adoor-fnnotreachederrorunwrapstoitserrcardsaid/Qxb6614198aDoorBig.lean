/-
  zzBigOf: a new *big.Int (or nil) of four words: whatever it is, nothing that was there turns.
-/
import Derived.Test.Qxb6614198aDoorProg
import Derived.WalkKit
import Derived.WalkSpells
import Derived.WalkLawsBesides
namespace Go.Proofs.Qxb6614198aDoor
open Go.RowKit

set_option maxHeartbeats 400000 in
/-- zzBigOf(true, ..): nil. -/
theorem big_nil (u0 u1 u2 u3 : Int) (w : World) :
    Calls Tryd.prog 6 #[.bool true, .bool false, .agg #[.int .u64 u0, .int .u64 u1, .int .u64 u2, .int .u64 u3]] w fun e w' => e = .returned (.pointer none) ∧ w' = w.alloc (.cells #[.int .u64 u0, .int .u64 u1, .int .u64 u2, .int .u64 u3] 23) := by
  go_enter Tryd.func6, Tryd.ntmps6
  go_wp2
  go_ret
  exact ⟨rfl, rfl⟩

set_option maxHeartbeats 400000 in
theorem fromArray_any (u0 u1 u2 u3 : Int) (w : World) :
    Calls Tryd.prog 9 #[.agg #[.int .u64 u0, .int .u64 u1, .int .u64 u2, .int .u64 u3]] w fun e w' => e = .returned (.agg #[.int .u64 u0, .int .u64 u1, .int .u64 u2, .int .u64 u3]) ∧ Below w.heap.size w w' := by
  go_enter Tryd.func9, Tryd.ntmps9
  go_wp2
  exact bodyPost_ret (v := .agg #[.int .u64 u0, .int .u64 u1, .int .u64 u2, .int .u64 u3]) (by simp [results, Tryd.results9, go_sem]) rfl ⟨rfl, ((Below.refl _ _).alloc (Nat.le_refl _) _).alloc (by simp) _⟩

set_option maxHeartbeats 400000 in
theorem set4 (u0 u1 u2 u3 : Int) (w : World) (h3 : (u3 != 0) = true) (g3 : (u3 == 0) = false) :
    Calls Tryd.prog 8 #[.agg #[.int .u64 u0, .int .u64 u1, .int .u64 u2, .int .u64 u3]] w fun e w' => ∃ p, e = .returned (.pointer p) ∧ Below w.heap.size w w' := by
  have hmk : ∀ w, (Instr.makeSlice 46 (.int .i64 4) (.int .i64 4)).run Tryd.prog w = .ok (.slice (some ⟨w.heap.size, 0, none⟩) 4 4) (w.alloc (.cells #[.int .u64 0, .int .u64 0, .int .u64 0, .int .u64 0] 65)) := fun _ => by kernel_rfl
  go_enter Tryd.func8, Tryd.ntmps8
  go_wp2
  refine wp_loop_rounds 1 ?_
  rw [rounds_succ]
  go_wp2
  go_ret
  refine ⟨_, rfl, ?_⟩
  repeat (first | exact Below.refl _ _ | refine Below.alloc ?_ (by simp <;> omega) _)

set_option maxHeartbeats 400000 in
theorem set3 (u0 u1 u2 u3 : Int) (w : World) (h3 : (u3 != 0) = false) (h2 : (u2 != 0) = true) (g2 : (u2 == 0) = false) :
    Calls Tryd.prog 8 #[.agg #[.int .u64 u0, .int .u64 u1, .int .u64 u2, .int .u64 u3]] w fun e w' => ∃ p, e = .returned (.pointer p) ∧ Below w.heap.size w w' := by
  have hmk : ∀ w, (Instr.makeSlice 46 (.int .i64 3) (.int .i64 3)).run Tryd.prog w = .ok (.slice (some ⟨w.heap.size, 0, none⟩) 3 3) (w.alloc (.cells #[.int .u64 0, .int .u64 0, .int .u64 0] 65)) := fun _ => by kernel_rfl
  go_enter Tryd.func8, Tryd.ntmps8
  go_wp2
  refine wp_loop_rounds 1 ?_
  rw [rounds_succ]
  go_wp2
  go_ret
  refine ⟨_, rfl, ?_⟩
  repeat (first | exact Below.refl _ _ | refine Below.alloc ?_ (by simp <;> omega) _)

set_option maxHeartbeats 400000 in
theorem set2 (u0 u1 u2 u3 : Int) (w : World) (h3 : (u3 != 0) = false) (h2 : (u2 != 0) = false) (h1 : (u1 != 0) = true) (g1 : (u1 == 0) = false) :
    Calls Tryd.prog 8 #[.agg #[.int .u64 u0, .int .u64 u1, .int .u64 u2, .int .u64 u3]] w fun e w' => ∃ p, e = .returned (.pointer p) ∧ Below w.heap.size w w' := by
  have hmk : ∀ w, (Instr.makeSlice 46 (.int .i64 2) (.int .i64 2)).run Tryd.prog w = .ok (.slice (some ⟨w.heap.size, 0, none⟩) 2 2) (w.alloc (.cells #[.int .u64 0, .int .u64 0] 65)) := fun _ => by kernel_rfl
  go_enter Tryd.func8, Tryd.ntmps8
  go_wp2
  refine wp_loop_rounds 1 ?_
  rw [rounds_succ]
  go_wp2
  go_ret
  refine ⟨_, rfl, ?_⟩
  repeat (first | exact Below.refl _ _ | refine Below.alloc ?_ (by simp <;> omega) _)

set_option maxHeartbeats 400000 in
theorem set1 (u0 u1 u2 u3 : Int) (w : World) (h3 : (u3 != 0) = false) (h2 : (u2 != 0) = false) (h1 : (u1 != 0) = false) (h0 : (u0 != 0) = true) (g0 : (u0 == 0) = false) :
    Calls Tryd.prog 8 #[.agg #[.int .u64 u0, .int .u64 u1, .int .u64 u2, .int .u64 u3]] w fun e w' => ∃ p, e = .returned (.pointer p) ∧ Below w.heap.size w w' := by
  have hmk : ∀ w, (Instr.makeSlice 46 (.int .i64 1) (.int .i64 1)).run Tryd.prog w = .ok (.slice (some ⟨w.heap.size, 0, none⟩) 1 1) (w.alloc (.cells #[.int .u64 0] 65)) := fun _ => by kernel_rfl
  go_enter Tryd.func8, Tryd.ntmps8
  go_wp2
  refine wp_loop_rounds 1 ?_
  rw [rounds_succ]
  go_wp2
  go_ret
  refine ⟨_, rfl, ?_⟩
  repeat (first | exact Below.refl _ _ | refine Below.alloc ?_ (by simp <;> omega) _)

set_option maxHeartbeats 400000 in
theorem set0 (u0 u1 u2 u3 : Int) (w : World) (h3 : (u3 != 0) = false) (h2 : (u2 != 0) = false) (h1 : (u1 != 0) = false) (h0 : (u0 != 0) = false) :
    Calls Tryd.prog 8 #[.agg #[.int .u64 u0, .int .u64 u1, .int .u64 u2, .int .u64 u3]] w fun e w' => ∃ p, e = .returned (.pointer p) ∧ Below w.heap.size w w' := by
  go_enter Tryd.func8, Tryd.ntmps8
  go_wp2
  refine wp_loop_rounds 1 ?_
  rw [rounds_succ]
  go_wp2
  go_ret
  refine ⟨_, rfl, ?_⟩
  repeat (first | exact Below.refl _ _ | refine Below.alloc ?_ (by simp <;> omega) _)

theorem bigOf_any (u0 u1 u2 u3 : Int) (w : World) :
    Calls Tryd.prog 8 #[.agg #[.int .u64 u0, .int .u64 u1, .int .u64 u2, .int .u64 u3]] w fun e w' => ∃ p, e = .returned (.pointer p) ∧ Below w.heap.size w w' := by
  by_cases h3 : u3 = 0
  · by_cases h2 : u2 = 0
    · by_cases h1 : u1 = 0
      · by_cases h0 : u0 = 0
        · exact set0 u0 u1 u2 u3 w (by simp [h3]) (by simp [h2]) (by simp [h1]) (by simp [h0])
        · exact set1 u0 u1 u2 u3 w (by simp [h3]) (by simp [h2]) (by simp [h1]) (by simp [h0]) (by simp [h0])
      · exact set2 u0 u1 u2 u3 w (by simp [h3]) (by simp [h2]) (by simp [h1]) (by simp [h1])
    · exact set3 u0 u1 u2 u3 w (by simp [h3]) (by simp [h2]) (by simp [h2])
  · exact set4 u0 u1 u2 u3 w (by simp [h3]) (by simp [h3])

set_option maxHeartbeats 400000 in
theorem big_some (u0 u1 u2 u3 : Int) (w : World) :
    Calls Tryd.prog 6 #[.bool false, .bool false, .agg #[.int .u64 u0, .int .u64 u1, .int .u64 u2, .int .u64 u3]] w fun e w' => ∃ p, e = .returned (.pointer p) ∧ Below w.heap.size w w' := by
  go_enter Tryd.func6, Tryd.ntmps6
  go_wp2_with fail
  refine (fromArray_any u0 u1 u2 u3 _).mono ?_
  rintro e w1 ⟨rfl, hb1⟩
  go_wp2_with fail
  refine (bigOf_any u0 u1 u2 u3 _).mono ?_
  rintro e w2 ⟨p, rfl, hb2⟩
  go_wp2
  go_ret
  exact ⟨_, rfl, (((Below.refl _ _).alloc (Nat.le_refl _) _).trans (hb1.mono (by simp))).trans (hb2.mono (by have := hb1.size; simp at this; omega))⟩

/-- zzBigOf: a pointer, nil or not; nothing that was there turns. -/
theorem big_any (isNil : Bool) (u0 u1 u2 u3 : Int) (w : World) :
    Calls Tryd.prog 6 #[.bool isNil, .bool false, .agg #[.int .u64 u0, .int .u64 u1, .int .u64 u2, .int .u64 u3]] w fun e w' => ∃ p, e = .returned (.pointer p) ∧ Below w.heap.size w w' := by
  cases isNil
  · exact big_some u0 u1 u2 u3 w
  · refine (big_nil u0 u1 u2 u3 w).mono ?_
    rintro e w' ⟨rfl, rfl⟩
    exact ⟨_, rfl, (Below.refl _ _).alloc (Nat.le_refl _) _⟩
end Go.Proofs.Qxb6614198aDoor
