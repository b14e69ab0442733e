/-
  Plain laws (no Go): the merge by rotation; the blocks of the stable sort.
-/
import Derived.Test.Qxb6614512aMath1
namespace Go.Proofs.Qxb6614512a.M
open Go.Sort

/-- What the merge asks: both parts ascending; every tag on the left less than every tag on the right. -/
structure Parts (lt : Nat → Nat → Bool) (a m b : Nat) (d : Array Nat) : Prop where
  sl : SortedIn lt a m d
  sr : SortedIn lt m b d
  tags : ∀ p q, a ≤ p → p < m → m ≤ q → q < b → d[p]! < d[q]!

variable {lt : Nat → Nat → Bool}

theorem ge_get (f : Nat → Nat) (d : Array Nat) (h : fn d = f) (t : Nat) : d[t]! = f t := congrFun h t

/-- One on the left: put where the search has found its place. -/
theorem leaf1 (hS : SWO lt) (d d' : Array Nat) (a b i : Nat) (hai : a + 1 ≤ i) (hib : i ≤ b) (hs : SortedIn lt (a + 1) b d)
    (h1 : ∀ h, a + 1 ≤ h → h < i → lt d[h]! d[a]! = true) (h2 : ∀ h, i ≤ h → h < b → lt d[h]! d[a]! = false) (he : fn d' = rotF (fn d) a (a + 1) i) : SortedIn lt a b d' := by
  have g : ∀ t, d'[t]! = rotF (fn d) a (a + 1) i t := fun t => congrFun he t
  have g1 : ∀ t, a ≤ t → t < i - 1 → d'[t]! = d[t + 1]! := fun t x y => by
    rw [g, rotF, if_pos (by omega)]; show d[_]! = _; congr 1; omega
  have g2 : d'[i - 1]! = d[a]! := by
    rw [g, rotF, if_neg (by omega), if_pos (by omega)]; show d[_]! = _; congr 1; omega
  have g3 : ∀ t, i ≤ t → d'[t]! = d[t]! := fun t x => by
    rw [g, rotF, if_neg (by omega), if_neg (by omega)]; rfl
  intro p q hp hpq hq
  by_cases c1 : p < i - 1
  · rw [g1 p hp c1]
    by_cases c2 : q < i - 1
    · rw [g1 q (by omega) c2]
      exact hs (p + 1) (q + 1) (by omega) (by omega) (by omega)
    · by_cases c3 : q = i - 1
      · subst c3; rw [g2]
        exact hS.asymmA (h1 (p + 1) (by omega) (by omega))
      · rw [g3 q (by omega)]
        exact hs (p + 1) q (by omega) (by omega) hq
  · by_cases c3 : p = i - 1
    · subst c3; rw [g2, g3 q (by omega)]
      exact h2 q (by omega) hq
    · rw [g3 p (by omega), g3 q (by omega)]
      exact hs p q (by omega) hpq hq

/-- One on the right: put where the search has found its place. -/
theorem leaf2 (hS : SWO lt) (d d' : Array Nat) (a m i : Nat) (hai : a ≤ i) (him : i ≤ m) (hs : SortedIn lt a m d)
    (h1 : ∀ h, a ≤ h → h < i → lt d[m]! d[h]! = false) (h2 : ∀ h, i ≤ h → h < m → lt d[m]! d[h]! = true) (he : fn d' = rotF (fn d) i m (m + 1)) : SortedIn lt a (m + 1) d' := by
  have g : ∀ t, d'[t]! = rotF (fn d) i m (m + 1) t := fun t => congrFun he t
  have g1 : ∀ t, t < i → d'[t]! = d[t]! := fun t x => by
    rw [g, rotF, if_neg (by omega), if_neg (by omega)]; rfl
  have g2 : d'[i]! = d[m]! := by
    rw [g, rotF, if_pos (by omega)]; show d[_]! = _; congr 1; omega
  have g3 : ∀ t, i < t → t ≤ m → d'[t]! = d[t - 1]! := fun t x y => by
    rw [g, rotF, if_neg (by omega), if_pos (by omega)]; show d[_]! = _; congr 1; omega
  intro p q hp hpq hq
  by_cases c1 : p < i
  · rw [g1 p c1]
    by_cases c2 : q < i
    · rw [g1 q c2]; exact hs p q hp hpq (by omega)
    · by_cases c3 : q = i
      · subst c3; rw [g2]; exact h1 p hp c1
      · rw [g3 q (by omega) (by omega)]; exact hs p (q - 1) hp (by omega) (by omega)
  · by_cases c3 : p = i
    · subst c3; rw [g2, g3 q (by omega) (by omega)]
      exact hS.asymmA (h2 (q - 1) (by omega) (by omega))
    · rw [g3 p (by omega) (by omega), g3 q (by omega) (by omega)]
      exact hs (p - 1) (q - 1) (by omega) (by omega) (by omega)

/-- The rotation in the middle: two merges are left, and nothing on the right comes ahead of anything on the left. -/
theorem split (hS : SWO lt) (d d1 : Array Nat) (a m b mid st en : Nat) (hP : Parts lt a m b d) (h1 : a ≤ st) (h2 : st ≤ m) (h3 : m ≤ en) (h4 : en ≤ b) (hsum : st + en = mid + m)
    (hA : a < st → en < b → lt d[en]! d[st - 1]! = false) (hB : m < en → st < m → lt d[st]! d[en - 1]! = false) (he : fn d1 = rotF (fn d) st m en) :
    Parts lt a st mid d1 ∧ Parts lt mid en b d1 ∧ ∀ p q, a ≤ p → p < mid → mid ≤ q → q < b → lt d1[q]! d1[p]! = false := by
  have g : ∀ t, d1[t]! = rotF (fn d) st m en t := fun t => congrFun he t
  have g1 : ∀ t, t < st → d1[t]! = d[t]! := fun t x => by
    rw [g, rotF, if_neg (by omega), if_neg (by omega)]; rfl
  have g2 : ∀ t, st ≤ t → t < mid → d1[t]! = d[t + (m - st)]! := fun t x y => by
    rw [g, rotF, if_pos (by omega)]; rfl
  have g3 : ∀ t, mid ≤ t → t < en → d1[t]! = d[t - (en - m)]! := fun t x y => by
    rw [g, rotF, if_neg (by omega), if_pos (by omega)]; rfl
  have g4 : ∀ t, en ≤ t → d1[t]! = d[t]! := fun t x => by
    rw [g, rotF, if_neg (by omega), if_neg (by omega)]; rfl
  have irr := hS.irrefl
  have le : ∀ {lo hi p q}, SortedIn lt lo hi d → lo ≤ p → p ≤ q → q < hi → lt d[q]! d[p]! = false := fun {lo hi p q} hs x y z => by
    rcases Nat.lt_or_ge p q with h | h
    · exact hs p q x h z
    · have : p = q := by omega
      subst this; exact irr _
  refine ⟨⟨?_, ?_, ?_⟩, ⟨?_, ?_, ?_⟩, ?_⟩
  · intro p q hp hpq hq
    rw [g1 p (by omega), g1 q hq]
    exact hP.sl p q hp hpq (by omega)
  · intro p q hp hpq hq
    rw [g2 p hp (by omega), g2 q (by omega) hq]
    exact hP.sr _ _ (by omega) (by omega) (by omega)
  · intro p q hp hp' hq hq'
    rw [g1 p hp', g2 q hq hq']
    exact hP.tags _ _ hp (by omega) (by omega) (by omega)
  · intro p q hp hpq hq
    rw [g3 p hp (by omega), g3 q (by omega) hq]
    exact hP.sl _ _ (by omega) (by omega) (by omega)
  · intro p q hp hpq hq
    rw [g4 p hp, g4 q (by omega)]
    exact hP.sr _ _ (by omega) hpq hq
  · intro p q hp hp' hq hq'
    rw [g3 p hp hp', g4 q hq]
    exact hP.tags _ _ (by omega) (by omega) (by omega) hq'
  · intro p q hp hp' hq hq'
    by_cases c1 : p < st
    · rw [g1 p c1]
      by_cases c2 : q < en
      · rw [g3 q hq c2]
        exact hP.sl _ _ hp (by omega) (by omega)
      · rw [g4 q (by omega)]
        have x1 := le hP.sr (p := en) (q := q) h3 (by omega) hq'
        have x2 := hA (by omega) (by omega)
        have x3 := le hP.sl (p := p) (q := st - 1) hp (by omega) (by omega)
        exact hS.ntrans _ _ _ x1 (hS.ntrans _ _ _ x2 x3)
    · rw [g2 p (by omega) hp']
      by_cases c2 : q < en
      · rw [g3 q hq c2]
        have x1 := le hP.sl (p := st) (q := q - (en - m)) h1 (by omega) (by omega)
        have x2 := hB (by omega) (by omega)
        have x3 := le hP.sr (p := p + (m - st)) (q := en - 1) (by omega) (by omega) (by omega)
        exact hS.ntrans _ _ _ x1 (hS.ntrans _ _ _ x2 x3)
      · rw [g4 q (by omega)]
        exact hP.sr _ _ (by omega) (by omega) hq'

/-- .. joined again, behind the two merges. -/
theorem join (d1 d2 d3 : Array Nat) (a mid b : Nat) (hb : b ≤ d1.size) (hmb : mid ≤ b) (hx : ∀ p q, a ≤ p → p < mid → mid ≤ q → q < b → lt d1[q]! d1[p]! = false)
    (p2 : PermIn a mid d1 d2) (s2 : SortedIn lt a mid d2) (p3 : PermIn mid b d2 d3) (s3 : SortedIn lt mid b d3) : SortedIn lt a b d3 := by
  have hx2 : ∀ p q, a ≤ p → p < mid → mid ≤ q → q < b → lt d2[q]! d2[p]! = false := fun p q hp hp' hq hq' => by
    rw [p2.2.1 q (Or.inr hq)]
    exact permIn_all d1 d2 a mid (fun x => lt d1[q]! x = false) (by omega) p2 (fun r h h' => hx r q h h' hq hq') p hp hp'
  have hx3 : ∀ p q, a ≤ p → p < mid → mid ≤ q → q < b → lt d3[q]! d3[p]! = false := fun p q hp hp' hq hq' => by
    rw [p3.2.1 p (Or.inl hp')]
    exact permIn_all d2 d3 mid b (fun x => lt x d2[p]! = false) (by rw [p2.1]; exact hb) p3 (fun r h h' => hx2 p r hp hp' h h') q hq hq'
  intro p q hp hpq hq
  by_cases c1 : q < mid
  · rw [p3.2.1 p (Or.inl (by omega)), p3.2.1 q (Or.inl c1)]
    exact s2 p q hp hpq c1
  · by_cases c2 : p < mid
    · exact hx3 p q hp c2 (by omega) hq
    · exact s3 p q (by omega) hpq hq

/-- The same parts, read off another array that holds the same there. -/
theorem Parts.congr {d d' : Array Nat} {a m b : Nat} (h : Parts lt a m b d) (e : ∀ t, a ≤ t → t < b → d'[t]! = d[t]!) (ham : a ≤ m) (hmb : m ≤ b) : Parts lt a m b d' := by
  refine ⟨?_, ?_, ?_⟩
  · intro p q hp hpq hq; rw [e p hp (by omega), e q (by omega) (by omega)]; exact h.sl p q hp hpq hq
  · intro p q hp hpq hq; rw [e p (by omega) (by omega), e q (by omega) hq]; exact h.sr p q hp hpq hq
  · intro p q hp hp' hq hq'; rw [e p hp (by omega), e q (by omega) hq']; exact h.tags p q hp hp' hq hq'

theorem SortedIn.congr' {d d' : Array Nat} {a b : Nat} (h : SortedIn lt a b d) (e : ∀ t, a ≤ t → t < b → d'[t]! = d[t]!) : SortedIn lt a b d' := by
  intro p q hp hpq hq; rw [e p hp (by omega), e q (by omega) hq]; exact h p q hp hpq hq

/-- Where one of the two parts is empty nothing is to be merged. -/
theorem Parts.trivial {d : Array Nat} {a m b : Nat} (h : Parts lt a m b d) (ht : ¬ (a < m ∧ m < b)) (ham : a ≤ m) (hmb : m ≤ b) : SortedIn lt a b d := by
  rcases Nat.lt_or_ge a m with h1 | h1
  · have : m = b := by omega
    subst this; exact h.sl
  · have : m = a := by omega
    subst this; exact h.sr

/-! ### The searches -/
theorem search1_up (hS : SWO lt) {d : Array Nat} {x m b h : Nat} (hs : SortedIn lt m b d) (hmh : m ≤ h) (hhb : h < b) (hl : lt d[h]! x = true) : ∀ h', m ≤ h' → h' < h + 1 → lt d[h']! x = true := by
  intro h' h1 h2
  rcases Nat.lt_or_ge h' h with c | c
  · have e := hs h' h h1 c hhb
    cases hv : lt d[h']! x with
    | true => rfl
    | false => have := hS.ntrans _ _ _ e hv; rw [hl] at this; cases this
  · have : h' = h := by omega
    subst this; exact hl
theorem search1_down (hS : SWO lt) {d : Array Nat} {x m b h : Nat} (hs : SortedIn lt m b d) (hmh : m ≤ h) (hl : lt d[h]! x = false) : ∀ h', h ≤ h' → h' < b → lt d[h']! x = false := by
  intro h' h1 h2
  rcases Nat.lt_or_ge h h' with c | c
  · exact hS.ntrans _ _ _ (hs h h' hmh c h2) hl
  · have : h' = h := by omega
    subst this; exact hl
theorem search2_up (hS : SWO lt) {d : Array Nat} {x a m h : Nat} (hs : SortedIn lt a m d) (hhm : h < m) (hl : lt x d[h]! = false) : ∀ h', a ≤ h' → h' < h + 1 → lt x d[h']! = false := by
  intro h' h1 h2
  rcases Nat.lt_or_ge h' h with c | c
  · exact hS.ntrans _ _ _ hl (hs h' h h1 c hhm)
  · have : h' = h := by omega
    subst this; exact hl
theorem search2_down (hS : SWO lt) {d : Array Nat} {x a m h : Nat} (hs : SortedIn lt a m d) (hah : a ≤ h) (hl : lt x d[h]! = true) : ∀ h', h ≤ h' → h' < m → lt x d[h']! = true := by
  intro h' h1 h2
  rcases Nat.lt_or_ge h h' with c | c
  · have e := hs h h' hah c h2
    cases hv : lt x d[h']! with
    | true => rfl
    | false => have := hS.ntrans _ _ _ hv e; rw [hl] at this; cases this
  · have : h' = h := by omega
    subst this; exact hl

/-! ### The blocks -/
/-- [lo, hi) is ascending and holds tags of its own range alone. -/
structure Blk (lt : Nat → Nat → Bool) (lo hi : Nat) (d : Array Nat) : Prop where
  s : SortedIn lt lo hi d
  r : ∀ i, lo ≤ i → i < hi → lo ≤ d[i]! ∧ d[i]! < hi

theorem Blk.congr {d d' : Array Nat} {lo hi : Nat} (h : Blk lt lo hi d) (e : ∀ t, lo ≤ t → t < hi → d'[t]! = d[t]!) : Blk lt lo hi d' :=
  ⟨SortedIn.congr' h.s e, fun i h1 h2 => by rw [e i h1 h2]; exact h.r i h1 h2⟩

theorem Blk.parts {d : Array Nat} {a m b : Nat} (h1 : Blk lt a m d) (h2 : Blk lt m b d) : Parts lt a m b d :=
  ⟨h1.s, h2.s, fun p q hp hp' hq hq' => by have := (h1.r p hp hp').2; have := (h2.r q hq hq').1; omega⟩

theorem Blk.merged {d d' : Array Nat} {a m b : Nat} (h1 : Blk lt a m d) (h2 : Blk lt m b d) (ham : a ≤ m) (hmb : m ≤ b) (hb : b ≤ d.size) (hp : PermIn a b d d') (hs : SortedIn lt a b d') : Blk lt a b d' :=
  ⟨hs, permIn_all d d' a b (fun x => a ≤ x ∧ x < b) hb hp (fun i x y => by
    rcases Nat.lt_or_ge i m with c | c
    · have := h1.r i x c; omega
    · have := h2.r i c y; omega)⟩

/-- The blocks of size s, up to n. -/
def Chunks (lt : Nat → Nat → Bool) (s lo n : Nat) (d : Array Nat) : Prop := ∀ q, lo + q * s < n → Blk lt (lo + q * s) (min (lo + q * s + s) n) d

theorem Chunks.congr {d d' : Array Nat} {s lo n : Nat} (h : Chunks lt s lo n d) (e : ∀ t, lo ≤ t → t < n → d'[t]! = d[t]!) : Chunks lt s lo n d' :=
  fun q hq => (h q hq).congr fun t h1 h2 => e t (by have := Nat.zero_le (q * s); omega) (by omega)

/-- The first two blocks struck. -/
theorem Chunks.next {d : Array Nat} {s lo n : Nat} (h : Chunks lt s lo n d) : Chunks lt s (lo + 2 * s) n d := fun q hq => by
  have e : lo + (q + 2) * s = lo + 2 * s + q * s := by rw [Nat.add_mul]; omega
  have := h (q + 2) (by omega)
  rw [e] at this
  exact this

end Go.Proofs.Qxb6614512a.M
