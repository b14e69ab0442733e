/-
  Plain laws (no Go): the blocks of the stable sort, pass by pass.
-/
import Derived.Test.Qxb6614512aMath2
namespace Go.Proofs.Qxb6614512a.M
open Go.Sort
variable {lt : Nat → Nat → Bool}

/-- Up to a, a multiple of s, every block of size s is done. -/
def Done (lt : Nat → Nat → Bool) (s a : Nat) (d : Array Nat) : Prop := ∃ q, a = q * s ∧ ∀ q', q' < q → Blk lt (q' * s) (q' * s + s) d

theorem Done.zero (s : Nat) (d : Array Nat) : Done lt s 0 d := ⟨0, by simp, fun q' h => by omega⟩

theorem Done.step {s a : Nat} {d d' : Array Nat} (h : Done lt s a d) (hb : Blk lt a (a + s) d') (e : ∀ t, t < a → d'[t]! = d[t]!) : Done lt s (a + s) d' := by
  obtain ⟨q, ha, hq⟩ := h
  refine ⟨q + 1, by rw [Nat.add_mul, Nat.one_mul, ← ha], fun q' h' => ?_⟩
  rcases Nat.lt_or_ge q' q with c | c
  · have hm : (q' + 1) * s ≤ q * s := Nat.mul_le_mul_right s (by omega)
    rw [Nat.add_mul, Nat.one_mul] at hm
    exact (hq q' c).congr fun t h1 h2 => e t (by omega)
  · have : q' = q := by omega
    subst this
    rw [← ha]; exact hb

theorem Done.congr {s a : Nat} {d d' : Array Nat} (h : Done lt s a d) (e : ∀ t, t < a → d'[t]! = d[t]!) : Done lt s a d' := by
  obtain ⟨q, ha, hq⟩ := h
  refine ⟨q, ha, fun q' c => ?_⟩
  have hm : (q' + 1) * s ≤ q * s := Nat.mul_le_mul_right s (by omega)
  rw [Nat.add_mul, Nat.one_mul] at hm
  exact (hq q' c).congr fun t h1 h2 => e t (by omega)

theorem Done.chunks {s a n : Nat} {d : Array Nat} (h : Done lt s a d) (han : a ≤ n) (hna : n ≤ a + s) (hl : a < n → Blk lt a n d) : Chunks lt s 0 n d := by
  obtain ⟨q0, ha, hq⟩ := h
  intro q hqn
  rw [Nat.zero_add] at hqn ⊢
  rcases Nat.lt_or_ge q q0 with c | c
  · have hm : (q + 1) * s ≤ q0 * s := Nat.mul_le_mul_right s (by omega)
    rw [Nat.add_mul, Nat.one_mul] at hm
    rw [Nat.min_eq_left (by omega)]
    exact hq q c
  · have e : q = q0 := by
      rcases Nat.lt_or_ge q0 q with c' | c'
      · have hm : (q0 + 1) * s ≤ q * s := Nat.mul_le_mul_right s (by omega)
        rw [Nat.add_mul, Nat.one_mul] at hm
        omega
      · omega
    subst e
    rw [← ha] at hqn ⊢
    rw [Nat.min_eq_right (by omega)]
    exact hl hqn

theorem Chunks.first {s a n : Nat} {d : Array Nat} (h : Chunks lt s a n d) (hn : a < n) : Blk lt a (min (a + s) n) d := by
  have := h 0 (by simpa using hn)
  simpa using this
theorem Chunks.second {s a n : Nat} {d : Array Nat} (h : Chunks lt s a n d) (hn : a + s < n) : Blk lt (a + s) (min (a + s + s) n) d := by
  have := h 1 (by simpa using hn)
  simpa using this

/-- A block out of an insertion sort of tags that stand at their own places. -/
theorem Blk.sorted {kl : Nat → Nat → Bool} (hS : SWO kl) (d : Array Nat) (a b : Nat) (hab : a ≤ b) (hb : b ≤ d.size) (hi : ∀ i, a ≤ i → i < b → d[i]! = i) :
    PermIn a b d (insertionSort kl d a b) ∧ Blk (tl kl) a b (insertionSort kl d a b) := by
  have h := insertion_ok hS d a b hab hb (fun p q hp hpq hq => by rw [hi p hp (by omega), hi q (by omega) hq]; exact hpq)
  exact ⟨h.1, h.2, permIn_all d _ a b (fun x => a ≤ x ∧ x < b) hb h.1 (fun i x y => by rw [hi i x y]; exact ⟨x, y⟩)⟩

end Go.Proofs.Qxb6614512a.M
