/-
  Plain laws (no Go): a rotation by one place, exchange by exchange.
-/
import Derived.Test.Qxb6614512aMath2
namespace Go.Proofs.Qxb6614512a.M
open Go.Sort

theorem rot1_start (f : Nat → Nat) (a : Nat) : f = rotF f a (a + 1) (a + 1) := by
  funext t
  unfold rotF
  by_cases c : t = a
  · subst c
    rw [if_neg (by omega), if_pos (by omega)]
    congr 1; omega
  · rw [if_neg (by omega), if_neg (by omega)]

theorem rot1_step (f : Nat → Nat) (dk : Array Nat) (a k : Nat) (hak : a ≤ k) (hk : k + 1 < dk.size) (h : fn dk = rotF f a (a + 1) (k + 1)) : fn (swp dk k (k + 1)) = rotF f a (a + 1) (k + 1 + 1) := by
  funext t
  show (swp dk k (k + 1))[t]! = _
  have g : ∀ x, dk[x]! = rotF f a (a + 1) (k + 1) x := fun x => congrFun h x
  rw [swp_get dk (by omega) hk, g, g, g]
  unfold rotF
  by_cases c1 : t = k + 1
  · subst c1
    rw [if_pos rfl]
    repeat (first | rw [if_pos (by omega)] | rw [if_neg (by omega)])
    congr 1; omega
  · rw [if_neg c1]
    by_cases c2 : t = k
    · subst c2
      rw [if_pos rfl]
      repeat (first | rw [if_pos (by omega)] | rw [if_neg (by omega)])
      congr 1; omega
    · rw [if_neg c2]
      by_cases c3 : a ≤ t ∧ t < k
      · rw [if_pos (by omega), if_pos (by omega)]
      · rw [if_neg (by omega), if_neg (by omega), if_neg (by omega), if_neg (by omega)]

theorem rot2_start (f : Nat → Nat) (m : Nat) : f = rotF f m m (m + 1) := by
  funext t
  unfold rotF
  by_cases c : t = m
  · subst c
    rw [if_pos (by omega)]
    congr 1; omega
  · rw [if_neg (by omega), if_neg (by omega)]

theorem rot2_step (f : Nat → Nat) (dk : Array Nat) (k m : Nat) (hkm : k + 1 ≤ m) (hk : k + 1 < dk.size) (h : fn dk = rotF f (k + 1) m (m + 1)) : fn (swp dk (k + 1) k) = rotF f k m (m + 1) := by
  funext t
  show (swp dk (k + 1) k)[t]! = _
  have g : ∀ x, dk[x]! = rotF f (k + 1) m (m + 1) x := fun x => congrFun h x
  rw [swp_get dk hk (by omega), g, g, g]
  unfold rotF
  by_cases c1 : t = k
  · subst c1
    rw [if_pos rfl]
    repeat (first | rw [if_pos (by omega)] | rw [if_neg (by omega)])
    congr 1; omega
  · rw [if_neg c1]
    by_cases c2 : t = k + 1
    · subst c2
      rw [if_pos rfl]
      repeat (first | rw [if_pos (by omega)] | rw [if_neg (by omega)])
      congr 1; omega
    · rw [if_neg c2]
      by_cases c3 : k + 1 < t ∧ t < m + 1
      · rw [if_neg (by omega), if_pos (by omega), if_neg (by omega), if_pos (by omega)]
      · rw [if_neg (by omega), if_neg (by omega), if_neg (by omega), if_neg (by omega)]

end Go.Proofs.Qxb6614512a.M
