/-
  Plain laws (no Go): the stable merge of two sorted lists of tags.
-/
import Derived.Test.Qxb6614512aMath2
namespace Go.Proofs.Qxb6614512a.M
open Go.Sort

/-- Ascending, as a list. -/
def Asc (lt : Nat → Nat → Bool) (l : List Nat) : Prop := l.Pairwise fun u v => lt v u = false

theorem asc_of_sorted {lt : Nat → Nat → Bool} {d : Array Nat} {n : Nat} (hn : d.size = n) (h : SortedIn lt 0 n d) : Asc lt d.toList := by
  refine List.pairwise_iff_getElem.2 fun i j hi hj hij => ?_
  have hi' : i < d.size := by simpa using hi
  have hj' : j < d.size := by simpa using hj
  have := h i j (Nat.zero_le _) hij (by omega)
  rw [getElem!_pos d i hi', getElem!_pos d j hj'] at this
  simpa using this

theorem perm_of_permIn {d : Array Nat} {n : Nat} (hn : d.size = n) (h : PermIn 0 n (Array.range n) d) : d.toList.Perm (List.range n) := by
  have := h.2.2
  rw [Array.extract_eq_self_of_le (by omega), Array.extract_eq_self_of_le (by simp)] at this
  simpa using this

section
variable {lt : Nat → Nat → Bool}

/-- What is left of the joined list begins with the least of the two heads: the right one's, where it is less. -/
theorem head_right (hS : SWO lt) (tot : ∀ x y, lt x y = false → lt y x = false → x = y) {la lb r : List Nat} {b z : Nat} (hp : (la ++ b :: lb).Perm (z :: r)) (ha : Asc lt la) (hb : Asc lt (b :: lb)) (hz : Asc lt (z :: r)) (hl : ∀ a l, la = a :: l → lt b a = true) : z = b ∧ (la ++ lb).Perm r := by
  have hb' := List.pairwise_cons.1 hb
  have hz' := List.pairwise_cons.1 hz
  have least : ∀ u, u ∈ la ++ b :: lb → lt u b = false := by
    intro u hu
    rcases List.mem_append.1 hu with h | h
    · cases la with
      | nil => cases h
      | cons a l =>
        have hba := hl a l rfl
        have ha' := List.pairwise_cons.1 ha
        have hua : lt u a = false := by
          rcases List.mem_cons.1 h with rfl | h
          · exact hS.irrefl _
          · exact ha'.1 u h
        cases hub : lt u b with
        | false => rfl
        | true => have := hS.trans _ _ _ hub hba; rw [hua] at this; cases this
    · rcases List.mem_cons.1 h with rfl | h
      · exact hS.irrefl _
      · exact hb'.1 u h
  have h1 : lt z b = false := least z (hp.mem_iff.2 (List.mem_cons_self ..))
  have h2 : lt b z = false := by
    rcases List.mem_cons.1 (hp.mem_iff.1 (List.mem_append_right la (List.mem_cons_self ..))) with rfl | h
    · exact hS.irrefl _
    · exact hz'.1 b h
  have e := tot z b h1 h2
  subst e
  exact ⟨rfl, (List.perm_middle.symm.trans hp).cons_inv⟩

/-- .. the left one's, where the right one's is not less. -/
theorem head_left (hS : SWO lt) (tot : ∀ x y, lt x y = false → lt y x = false → x = y) {la lb r : List Nat} {a z : Nat} (hp : (a :: la ++ lb).Perm (z :: r)) (ha : Asc lt (a :: la)) (hb : Asc lt lb) (hz : Asc lt (z :: r)) (hl : ∀ b l, lb = b :: l → lt b a = false) : z = a ∧ (la ++ lb).Perm r := by
  have ha' := List.pairwise_cons.1 ha
  have hz' := List.pairwise_cons.1 hz
  have least : ∀ u, u ∈ a :: la ++ lb → lt u a = false := by
    intro u hu
    rcases List.mem_append.1 hu with h | h
    · rcases List.mem_cons.1 h with rfl | h
      · exact hS.irrefl _
      · exact ha'.1 u h
    · cases lb with
      | nil => cases h
      | cons b l =>
        have hba := hl b l rfl
        have hb' := List.pairwise_cons.1 hb
        rcases List.mem_cons.1 h with rfl | h
        · exact hba
        · exact hS.ntrans _ _ _ (hb'.1 u h) hba
  have h1 : lt z a = false := least z (hp.mem_iff.2 (List.mem_cons_self ..))
  have h2 : lt a z = false := by
    rcases List.mem_cons.1 (hp.mem_iff.1 (List.mem_append_left lb (List.mem_cons_self ..))) with rfl | h
    · exact hS.irrefl _
    · exact hz'.1 a h
  have e := tot z a h1 h2
  subst e
  exact ⟨rfl, hp.cons_inv⟩
end

/-- Two sorted rows of tags and the sorted row of the two joined: the tags of the second follow the first's. -/
structure Join (na nb : Nat) (kA kB kJ : Nat → Nat → Bool) (dA dB dJ : Array Nat) : Prop where
  zA : dA.size = na
  zB : dB.size = nb
  zJ : dJ.size = na + nb
  tA : ∀ i, i < na → dA[i]! < na
  tB : ∀ i, i < nb → dB[i]! < nb
  pA : PermIn 0 na (Array.range na) dA
  pB : PermIn 0 nb (Array.range nb) dB
  pJ : PermIn 0 (na + nb) (Array.range (na + nb)) dJ
  oA : SortedIn (tl kA) 0 na dA
  oB : SortedIn (tl kB) 0 nb dB
  oJ : SortedIn (tl kJ) 0 (na + nb) dJ
  hS : SWO kJ
  eA : ∀ u v, u < na → v < na → kJ u v = kA u v
  eB : ∀ u v, u < nb → v < nb → kJ (na + u) (na + v) = kB u v

variable {na nb : Nat} {kA kB kJ : Nat → Nat → Bool} {dA dB dJ : Array Nat}

theorem Join.ascA (h : Join na nb kA kB kJ dA dB dJ) : Asc (tl kJ) dA.toList := by
  refine asc_of_sorted h.zA ?_
  intro i j _ hij hj
  have := h.oA i j (Nat.zero_le _) hij hj
  unfold tl at this ⊢
  rw [h.eA _ _ (h.tA j hj) (h.tA i (by omega)), h.eA _ _ (h.tA i (by omega)) (h.tA j hj)]
  exact this

theorem Join.ascB (h : Join na nb kA kB kJ dA dB dJ) : Asc (tl kJ) (dB.toList.map (na + ·)) := by
  have h1 : Asc (fun u v => tl kJ (na + u) (na + v)) dB.toList := by
    refine asc_of_sorted h.zB ?_
    intro i j _ hij hj
    have := h.oB i j (Nat.zero_le _) hij hj
    unfold tl at this
    show tl kJ (na + dB[j]!) (na + dB[i]!) = false
    unfold tl
    rw [h.eB _ _ (h.tB j hj) (h.tB i (by omega)), h.eB _ _ (h.tB i (by omega)) (h.tB j hj)]
    have e : decide (na + dB[j]! < na + dB[i]!) = decide (dB[j]! < dB[i]!) := by
      rw [decide_eq_decide]; omega
    rw [e]; exact this
  exact List.Pairwise.map _ (fun _ _ h => h) h1

theorem Join.ascJ (h : Join na nb kA kB kJ dA dB dJ) : Asc (tl kJ) dJ.toList := asc_of_sorted h.zJ h.oJ

/-- The merge stands at x, y, k: what is left of the joined row is what is left of the two. -/
def MInv (na nb : Nat) (dA dB dJ : Array Nat) (x y k : Nat) : Prop :=
  k = x + y ∧ x ≤ na ∧ y ≤ nb ∧ (dA.toList.drop x ++ (dB.toList.map (na + ·)).drop y).Perm (dJ.toList.drop k)

theorem Join.start (h : Join na nb kA kB kJ dA dB dJ) : MInv na nb dA dB dJ 0 0 0 := by
  refine ⟨rfl, Nat.zero_le _, Nat.zero_le _, ?_⟩
  simp only [List.drop_zero]
  refine ((perm_of_permIn h.zA h.pA).append ((perm_of_permIn h.zB h.pB).map _)).trans ?_
  rw [← List.range_add]
  exact (perm_of_permIn h.zJ h.pJ).symm

theorem drop_cons (d : Array Nat) (x : Nat) (hx : x < d.size) : d.toList.drop x = d[x]! :: d.toList.drop (x + 1) := by
  rw [List.drop_eq_getElem_cons (by simpa using hx), getElem!_pos d x hx]
  rfl
theorem drop_map_cons (d : Array Nat) (c y : Nat) (hy : y < d.size) : (d.toList.map (c + ·)).drop y = (c + d[y]!) :: (d.toList.map (c + ·)).drop (y + 1) := by
  rw [← List.map_drop, ← List.map_drop, drop_cons d y hy, List.map_cons]

theorem Join.right (h : Join na nb kA kB kJ dA dB dJ) {x y k : Nat} (hM : MInv na nb dA dB dJ x y k) (hy : y < nb) (hl : x < na → kJ (na + dB[y]!) dA[x]! = true) :
    dJ[k]! = na + dB[y]! ∧ MInv na nb dA dB dJ x (y + 1) (k + 1) := by
  obtain ⟨hk, hx, _, hp⟩ := hM
  have aA : Asc (tl kJ) (dA.toList.drop x) := h.ascA.drop
  have aB : Asc (tl kJ) ((dB.toList.map (na + ·)).drop y) := h.ascB.drop
  have aJ : Asc (tl kJ) (dJ.toList.drop k) := h.ascJ.drop
  rw [drop_map_cons dB na y (by rw [h.zB]; exact hy)] at hp aB
  rw [drop_cons dJ k (by rw [h.zJ]; omega)] at hp aJ
  have := head_right (tl_swo h.hS) (fun _ _ => tl_total) hp aA aB aJ (fun a l e => by
    have hxa : x < na := by
      rcases Nat.lt_or_ge x na with c | c
      · exact c
      · rw [List.drop_eq_nil_of_le (by rw [Array.length_toList, h.zA]; exact c)] at e; cases e
    rw [drop_cons dA x (by rw [h.zA]; exact hxa)] at e
    obtain ⟨rfl, _⟩ := List.cons.inj e
    rw [tl_of_tag (by have := h.tA x hxa; omega)]
    exact hl hxa)
  exact ⟨this.1, by omega, hx, by omega, this.2⟩

theorem Join.left (h : Join na nb kA kB kJ dA dB dJ) {x y k : Nat} (hM : MInv na nb dA dB dJ x y k) (hx : x < na) (hl : y < nb → kJ (na + dB[y]!) dA[x]! = false) :
    dJ[k]! = dA[x]! ∧ MInv na nb dA dB dJ (x + 1) y (k + 1) := by
  obtain ⟨hk, _, hy, hp⟩ := hM
  have aA : Asc (tl kJ) (dA.toList.drop x) := h.ascA.drop
  have aB : Asc (tl kJ) ((dB.toList.map (na + ·)).drop y) := h.ascB.drop
  have aJ : Asc (tl kJ) (dJ.toList.drop k) := h.ascJ.drop
  rw [drop_cons dA x (by rw [h.zA]; exact hx)] at hp aA
  rw [drop_cons dJ k (by rw [h.zJ]; omega)] at hp aJ
  have := head_left (tl_swo h.hS) (fun _ _ => tl_total) hp aA aB aJ (fun b l e => by
    have hyb : y < nb := by
      rcases Nat.lt_or_ge y nb with c | c
      · exact c
      · rw [List.drop_eq_nil_of_le (by rw [List.length_map, Array.length_toList, h.zB]; exact c)] at e; cases e
    rw [drop_map_cons dB na y (by rw [h.zB]; exact hyb)] at e
    obtain ⟨rfl, _⟩ := List.cons.inj e
    rw [tl_of_tag (by have := h.tA x hx; omega)]
    exact hl hyb)
  exact ⟨this.1, by omega, by omega, hy, this.2⟩

/-- Keys never go down. -/
theorem key_up {k : Nat → Nat → Bool} {d : Array Nat} {n : Nat} (h : SortedIn (tl k) 0 n d) {i : Nat} (hi : i + 1 < n) : k d[i + 1]! d[i]! = false := by
  have := h i (i + 1) (Nat.zero_le _) (by omega) hi
  unfold tl at this
  exact (Bool.or_eq_false_iff.1 this).1

end Go.Proofs.Qxb6614512a.M
