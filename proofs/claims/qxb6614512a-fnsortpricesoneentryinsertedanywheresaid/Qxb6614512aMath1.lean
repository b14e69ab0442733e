/-
  Plain laws on arrays of tags (no Go): the order 'by key, then by tag'; insertion sort; rotation; the stable merge by rotation.
-/
import Derived.Sort.LotA
namespace Go.Proofs.Qxb6614512a.M
open Go.Sort

/-! ### The order: by key, then by tag -/
/-- x before y: its key is less, or neither's is and its tag is. -/
def tl (kl : Nat → Nat → Bool) (x y : Nat) : Bool := kl x y || (!kl y x && decide (x < y))

theorem tl_swo {kl : Nat → Nat → Bool} (h : SWO kl) : SWO (tl kl) := by
  have as : ∀ {x y}, kl x y = true → kl y x = false := fun hxy => h.asymmA hxy
  constructor
  · intro x
    simp [tl, h.irrefl]
  · intro x y z h1 h2
    simp only [tl, Bool.or_eq_true, Bool.and_eq_true, Bool.not_eq_true', decide_eq_true_eq] at h1 h2 ⊢
    rcases h1 with h1 | ⟨h1, h1'⟩
    · rcases h2 with h2 | ⟨h2, h2'⟩
      · exact Or.inl (h.trans _ _ _ h1 h2)
      · left
        cases hxz : kl x z with
        | true => rfl
        | false => have := h.ntrans x z y hxz h2; rw [h1] at this; cases this
    · rcases h2 with h2 | ⟨h2, h2'⟩
      · left
        cases hxz : kl x z with
        | true => rfl
        | false => have := h.ntrans y x z h1 hxz; rw [h2] at this; cases this
      · exact Or.inr ⟨h.ntrans _ _ _ h2 h1, by omega⟩
  · intro x y z h1 h2
    simp only [tl, Bool.or_eq_false_iff, Bool.and_eq_false_iff, Bool.not_eq_false', decide_eq_false_iff_not] at h1 h2 ⊢
    obtain ⟨a1, b1⟩ := h1
    obtain ⟨a2, b2⟩ := h2
    refine ⟨h.ntrans _ _ _ a1 a2, ?_⟩
    rcases b1 with b1 | b1
    · left
      cases hzx : kl z x with
      | true => rfl
      | false => have := h.ntrans y z x a2 hzx; rw [b1] at this; cases this
    · rcases b2 with b2 | b2
      · left
        cases hzx : kl z x with
        | true => rfl
        | false => have := h.ntrans z x y hzx a1; rw [b2] at this; cases this
      · right; omega

/-- Of two, the one with the greater tag comes first just where its key is less. -/
theorem tl_of_tag {kl : Nat → Nat → Bool} {x y : Nat} (h : y < x) : tl kl x y = kl x y := by
  unfold tl
  have : decide (x < y) = false := decide_eq_false (by omega)
  rw [this]; simp

theorem tl_total {kl : Nat → Nat → Bool} {x y : Nat} (h1 : tl kl x y = false) (h2 : tl kl y x = false) : x = y := by
  simp only [tl, Bool.or_eq_false_iff, Bool.and_eq_false_iff, Bool.not_eq_false', decide_eq_false_iff_not] at h1 h2
  obtain ⟨a1, b1⟩ := h1
  obtain ⟨a2, b2⟩ := h2
  rcases b1 with b1 | b1
  · rw [a2] at b1; cases b1
  · rcases b2 with b2 | b2
    · rw [a1] at b2; cases b2
    · omega

/-! ### Insertion sort: at ascending tags the key alone decides as the order does -/
theorem insInner_perm (lt : Nat → Nat → Bool) (a i : Nat) : ∀ (j : Nat) (d : Array Nat), j ≤ i → i < d.size → PermIn a (i + 1) d (insInner lt a j d)
  | 0, d, _, _ => by unfold insInner; exact permIn_refl _ _ _
  | j + 1, d, hj, hi => by
    unfold insInner
    split
    · rename_i h
      have ha : a ≤ j := by
        have := (Bool.and_eq_true _ _ ▸ h).1
        have := of_decide_eq_true this
        omega
      exact permIn_trans _ _ _ _ _ (swp_permIn d a (i + 1) (j + 1) j (by omega) (by omega) ha (by omega) (by omega)) (insInner_perm lt a i j _ (by omega) (by rw [size_swp]; exact hi))
    · exact permIn_refl _ _ _

theorem insInner_key {kl : Nat → Nat → Bool} (a : Nat) : ∀ (j : Nat) (d : Array Nat), j < d.size → (∀ p, a ≤ p → p < j → d[p]! < d[j]!) → insInner kl a j d = insInner (tl kl) a j d
  | 0, d, _, _ => by unfold insInner; rfl
  | j + 1, d, hj, h => by
    unfold insInner
    by_cases ha : j + 1 > a
    · have e : tl kl d[j + 1]! d[j]! = kl d[j + 1]! d[j]! := tl_of_tag (h j (by omega) (by omega))
      rw [e]
      have ih := insInner_key (kl := kl) a j (swp d (j + 1) j) (by rw [size_swp]; omega) (fun p hp hpj => by
        rw [swp_other d (j + 1) j p (by omega) (by omega), swp_right d (j + 1) j (by omega)]
        exact h p hp (by omega))
      rw [ih]
    · simp [ha]

theorem insOuter_key {kl : Nat → Nat → Bool} (a b : Nat) : ∀ (f i : Nat) (d : Array Nat), b - i ≤ f → a ≤ i → b ≤ d.size → (∀ p q, a ≤ p → p < q → i ≤ q → q < b → d[p]! < d[q]!) → insOuter kl a b i d = insOuter (tl kl) a b i d
  | 0, i, d, hf, _, _, _ => by
    rw [insOuter, if_neg (by omega), insOuter, if_neg (by omega)]
  | f + 1, i, d, hf, hai, hb, h => by
    by_cases hi : i < b
    · rw [insOuter, if_pos hi]
      conv => rhs; rw [insOuter, if_pos hi]
      rw [insInner_key a i d (by omega) (fun p hp hpi => h p i hp hpi (Nat.le_refl _) hi)]
      have hp := insInner_perm (tl kl) a i i d (Nat.le_refl _) (by omega)
      refine insOuter_key a b f (i + 1) _ (by omega) (by omega) (by rw [hp.1]; exact hb) ?_
      intro p q hap hpq hiq hqb
      rw [hp.2.1 q (Or.inr hiq)]
      by_cases hpi : p < i + 1
      · exact permIn_all d _ a (i + 1) (fun x => x < d[q]!) (by omega) hp (fun r har hri => h r q har (by omega) (by omega) hqb) p hap hpi
      · rw [hp.2.1 p (Or.inr (by omega))]
        exact h p q hap hpq (by omega) hqb
    · rw [insOuter, if_neg hi, insOuter, if_neg hi]

theorem insertion_ok {kl : Nat → Nat → Bool} (hS : SWO kl) (d : Array Nat) (a b : Nat) (hab : a ≤ b) (hb : b ≤ d.size) (h : ∀ p q, a ≤ p → p < q → q < b → d[p]! < d[q]!) :
    PermIn a b d (insertionSort kl d a b) ∧ SortedIn (tl kl) a b (insertionSort kl d a b) := by
  have e : insertionSort kl d a b = insertionSort (tl kl) d a b := by
    unfold insertionSort
    exact insOuter_key a b (b - (a + 1)) (a + 1) d (Nat.le_refl _) (by omega) hb (fun p q hp hpq _ hq => h p q hp hpq hq)
  rw [e]
  exact insertionSort_holds (tl_swo hS) d a b hab hb

/-! ### Exchanges, rotations: on functions of the place -/
/-- What an array holds, as a function of the place. -/
def fn (d : Array Nat) : Nat → Nat := fun t => d[t]!
def swrF (f : Nat → Nat) (a b n : Nat) : Nat → Nat := fun t => if a ≤ t ∧ t < a + n then f (t - a + b) else if b ≤ t ∧ t < b + n then f (t - b + a) else f t
def rotF (f : Nat → Nat) (a m b : Nat) : Nat → Nat := fun t => if a ≤ t ∧ t < a + (b - m) then f (t + (m - a)) else if a + (b - m) ≤ t ∧ t < b then f (t - (b - m)) else f t

/-- swapRange: n exchanges. -/
def swr (d : Array Nat) (a b : Nat) : Nat → Array Nat
  | 0 => d
  | n + 1 => swp (swr d a b n) (a + n) (b + n)

theorem size_swr (d : Array Nat) (a b : Nat) : ∀ n, (swr d a b n).size = d.size
  | 0 => rfl
  | n + 1 => by rw [swr, size_swp]; exact size_swr d a b n

theorem fn_swr (d : Array Nat) (a b : Nat) : ∀ n, a + n ≤ b → b + n ≤ d.size → fn (swr d a b n) = swrF (fn d) a b n
  | 0, _, _ => by
    funext t
    unfold swrF
    rw [if_neg (by omega), if_neg (by omega)]
    rfl
  | n + 1, h1, h2 => by
    have ih := fn_swr d a b n (by omega) (by omega)
    funext t
    show (swp (swr d a b n) (a + n) (b + n))[t]! = _
    rw [swp_get (swr d a b n) (by rw [size_swr]; omega) (by rw [size_swr]; omega)]
    have g : ∀ x, (swr d a b n)[x]! = swrF (fn d) a b n x := fun x => congrFun ih x
    rw [g, g, g]
    unfold swrF
    by_cases e1 : t = b + n
    · subst e1
      rw [if_pos rfl]
      repeat (first | rw [if_pos (by omega)] | rw [if_neg (by omega)])
      congr 1; omega
    · rw [if_neg e1]
      by_cases e2 : t = a + n
      · subst e2
        rw [if_pos rfl]
        repeat (first | rw [if_pos (by omega)] | rw [if_neg (by omega)])
        congr 1; omega
      · rw [if_neg e2]
        by_cases c1 : a ≤ t ∧ t < a + n
        · rw [if_pos c1, if_pos (by omega)]
        · rw [if_neg c1]
          by_cases c2 : b ≤ t ∧ t < b + n
          · rw [if_pos c2, if_neg (by omega), if_pos (by omega)]
          · rw [if_neg c2, if_neg (by omega), if_neg (by omega)]

theorem perm_swr (d : Array Nat) (lo hi a b : Nat) (hlo : lo ≤ a) (hhi : hi ≤ d.size) : ∀ n, a + n ≤ b → b + n ≤ hi → PermIn lo hi d (swr d a b n)
  | 0, _, _ => permIn_refl _ _ _
  | n + 1, h1, h2 => by
    have ih := perm_swr d lo hi a b hlo hhi n (by omega) (by omega)
    exact permIn_trans _ _ _ _ _ ih (swp_permIn _ lo hi (a + n) (b + n) (by omega) (by omega) (by omega) (by omega) (by rw [size_swr]; exact hhi))

theorem rot_gt (f : Nat → Nat) (m i j : Nat) (hi : i ≤ m) (h : j < i) (_hj : 0 < j) : rotF (swrF f (m - i) m j) (m - (i - j)) m (m + j) = rotF f (m - i) m (m + j) := by
  funext t
  unfold rotF swrF
  by_cases c1 : t < m - i
  · repeat (first | rw [if_pos (by omega)] | rw [if_neg (by omega)])
  · by_cases c2 : t < m - i + j
    · repeat (first | rw [if_pos (by omega)] | rw [if_neg (by omega)])
      congr 1; omega
    · by_cases c3 : t < m - i + j + j
      · repeat (first | rw [if_pos (by omega)] | rw [if_neg (by omega)])
        congr 1; omega
      · by_cases c4 : t < m + j
        · repeat (first | rw [if_pos (by omega)] | rw [if_neg (by omega)])
        · repeat (first | rw [if_pos (by omega)] | rw [if_neg (by omega)])

theorem rot_lt (f : Nat → Nat) (m i j : Nat) (hi : i ≤ m) (h : i < j) (_hi0 : 0 < i) : rotF (swrF f (m - i) (m + j - i) i) (m - i) m (m + (j - i)) = rotF f (m - i) m (m + j) := by
  funext t
  unfold rotF swrF
  by_cases c1 : t < m - i
  · repeat (first | rw [if_pos (by omega)] | rw [if_neg (by omega)])
  · by_cases c2 : t < m - i + (j - i)
    · repeat (first | rw [if_pos (by omega)] | rw [if_neg (by omega)])
    · by_cases c3 : t < m - i + j
      · repeat (first | rw [if_pos (by omega)] | rw [if_neg (by omega)])
        congr 1; omega
      · by_cases c4 : t < m + j
        · repeat (first | rw [if_pos (by omega)] | rw [if_neg (by omega)])
          congr 1; omega
        · repeat (first | rw [if_pos (by omega)] | rw [if_neg (by omega)])

theorem rot_eq (f : Nat → Nat) (m i : Nat) (hi : i ≤ m) : swrF f (m - i) m i = rotF f (m - i) m (m + i) := by
  funext t
  unfold rotF swrF
  by_cases c1 : t < m - i
  · repeat (first | rw [if_pos (by omega)] | rw [if_neg (by omega)])
  · by_cases c2 : t < m
    · repeat (first | rw [if_pos (by omega)] | rw [if_neg (by omega)])
      congr 1; omega
    · by_cases c4 : t < m + i
      · repeat (first | rw [if_pos (by omega)] | rw [if_neg (by omega)])
        congr 1; omega
      · repeat (first | rw [if_pos (by omega)] | rw [if_neg (by omega)])

end Go.Proofs.Qxb6614512a.M
