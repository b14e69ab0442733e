/-
  Plain laws (no Go): one tag put into a sorted list of tags.
-/
import Derived.Test.Qxb6614512aMath5
namespace Go.Proofs.Qxb6614512a.M
open Go.Sort

/-- Two ascending lists of the same elements are one. -/
theorem asc_eq {lt : Nat → Nat → Bool} (tot : ∀ x y, lt x y = false → lt y x = false → x = y) : ∀ {l l' : List Nat}, l.Perm l' → Asc lt l → Asc lt l' → l = l'
  | [], l', h, _, _ => (List.nil_perm.1 h).symm
  | x :: l, [], h, _, _ => by have := h.length_eq; simp at this
  | x :: l, y :: l', h, a, b => by
    have a' := List.pairwise_cons.1 a
    have b' := List.pairwise_cons.1 b
    have e : x = y := by
      rcases List.mem_cons.1 (h.mem_iff.1 (List.mem_cons_self ..)) with e | e
      · exact e
      · rcases List.mem_cons.1 (h.mem_iff.2 (List.mem_cons_self ..)) with e2 | e2
        · exact e2.symm
        · exact tot x y (b'.1 x e) (a'.1 y e2)
    subst e
    rw [asc_eq tot h.cons_inv a'.2 b'.2]

/-- In an ascending list those that come ahead of c stand first. -/
theorem asc_split {lt : Nat → Nat → Bool} (hS : SWO lt) (c : Nat) : ∀ {l : List Nat}, Asc lt l → (∀ u, u ∈ l.take (l.countP (lt · c)) → lt u c = true) ∧ (∀ u, u ∈ l.drop (l.countP (lt · c)) → lt u c = false)
  | [], _ => ⟨fun u h => by simp at h, fun u h => by simp at h⟩
  | x :: r, h => by
    have h' := List.pairwise_cons.1 h
    have ih := asc_split hS c h'.2
    cases hx : lt x c with
    | true =>
      rw [List.countP_cons_of_pos (p := fun x => lt x c) (a := x) hx, List.take_succ_cons, List.drop_succ_cons]
      refine ⟨fun u hu => ?_, ih.2⟩
      rcases List.mem_cons.1 hu with rfl | hu
      · exact hx
      · exact ih.1 u hu
    | false =>
      have all : ∀ v, v ∈ x :: r → lt v c = false := fun v hv => by
        rcases List.mem_cons.1 hv with rfl | hv
        · exact hx
        · exact hS.ntrans _ _ _ (h'.1 v hv) hx
      have e : (x :: r).countP (lt · c) = 0 := List.countP_eq_zero.2 fun v hv => by rw [all v hv]; decide
      rw [e]
      exact ⟨fun u hu => by simp at hu, fun u hu => all u (by simpa using hu)⟩

/-- A tag put in at c: those from c on go up by one. -/
def up (c t : Nat) : Nat := if t < c then t else t + 1
theorem up_lt (c u v : Nat) : decide (up c u < up c v) = decide (u < v) := by
  rw [decide_eq_decide]
  unfold up
  split <;> split <;> omega
theorem up_lt_c (c t : Nat) : decide (up c t < c) = decide (t < c) := by
  rw [decide_eq_decide]
  unfold up
  split <;> omega

theorem up_perm (c n : Nat) (hc : c ≤ n) : (c :: (List.range n).map (up c)).Perm (List.range (n + 1)) := by
  obtain ⟨m, rfl⟩ : ∃ m, n = c + m := ⟨n - c, by omega⟩
  have e1 : (List.range (c + m)).map (up c) = List.range c ++ (List.range m).map (fun i => c + (i + 1)) := by
    rw [List.range_add, List.map_append, List.map_map]
    congr 1
    · conv => rhs; rw [← List.map_id (List.range c)]
      exact List.map_congr_left fun i hi => by unfold up; rw [if_pos (List.mem_range.1 hi)]; rfl
    · exact List.map_congr_left fun i _ => by show up c (c + i) = _; unfold up; rw [if_neg (by omega)]; omega
  have e2 : List.range (c + m + 1) = List.range c ++ c :: (List.range m).map (fun i => c + (i + 1)) := by
    rw [show c + m + 1 = c + (m + 1) by omega, List.range_add, List.range_succ_eq_map, List.map_cons, List.map_map]
    rfl
  rw [e1, e2]
  exact List.perm_middle.symm

/-- A sorted row of tags, and the sorted row with one more put in at c. -/
structure Ins1 (n c : Nat) (kB kW : Nat → Nat → Bool) (dB dW : Array Nat) : Prop where
  hc : c ≤ n
  zB : dB.size = n
  zW : dW.size = n + 1
  tB : ∀ i, i < n → dB[i]! < n
  pB : PermIn 0 n (Array.range n) dB
  pW : PermIn 0 (n + 1) (Array.range (n + 1)) dW
  oB : SortedIn (tl kB) 0 n dB
  oW : SortedIn (tl kW) 0 (n + 1) dW
  hS : SWO kW
  eB : ∀ u v, u < n → v < n → kW (up c u) (up c v) = kB u v

/-- How many come ahead of the new one. -/
def pos (kW : Nat → Nat → Bool) (n c : Nat) : Nat := (List.range n).countP fun t => tl kW (up c t) c

variable {n c : Nat} {kB kW : Nat → Nat → Bool} {dB dW : Array Nat}

theorem pos_le : pos kW n c ≤ n := by
  have := List.countP_le_length (p := fun t => tl kW (up c t) c) (l := List.range n)
  rw [List.length_range] at this
  exact this

theorem pos_step (k : Nat) : pos kW (k + 1) c = pos kW k c + if tl kW (up c k) c then 1 else 0 := by
  unfold pos
  rw [List.range_succ, List.countP_append, List.countP_singleton]

theorem Ins1.ascB (h : Ins1 n c kB kW dB dW) : Asc (tl kW) (dB.toList.map (up c)) := by
  have h1 : Asc (fun u v => tl kW (up c u) (up c v)) dB.toList := by
    refine asc_of_sorted h.zB ?_
    intro i j _ hij hj
    have := h.oB i j (Nat.zero_le _) hij hj
    unfold tl at this
    show tl kW (up c dB[j]!) (up c dB[i]!) = false
    unfold tl
    rw [h.eB _ _ (h.tB j hj) (h.tB i (by omega)), h.eB _ _ (h.tB i (by omega)) (h.tB j hj), up_lt]
    exact this
  exact List.Pairwise.map _ (fun _ _ h => h) h1

theorem Ins1.eq (h : Ins1 n c kB kW dB dW) : dW.toList = (dB.toList.map (up c)).take (pos kW n c) ++ c :: (dB.toList.map (up c)).drop (pos kW n c) := by
  have hS := tl_swo h.hS
  have pm : (dB.toList.map (up c)).Perm ((List.range n).map (up c)) := (perm_of_permIn h.zB h.pB).map _
  have ep : (dB.toList.map (up c)).countP (tl kW · c) = pos kW n c := by
    rw [pm.countP_eq, List.countP_map]
    rfl
  have sp := asc_split hS c h.ascB
  rw [ep] at sp
  refine asc_eq (lt := tl kW) (fun _ _ => tl_total) ?_ (asc_of_sorted h.zW h.oW) ?_
  · refine (perm_of_permIn h.zW h.pW).trans ?_
    refine (up_perm c n h.hc).symm.trans ?_
    refine (pm.symm.cons c).trans ?_
    have := (List.perm_middle (a := c) (l₁ := (dB.toList.map (up c)).take (pos kW n c)) (l₂ := (dB.toList.map (up c)).drop (pos kW n c))).symm
    rw [List.take_append_drop] at this
    exact this
  · refine List.pairwise_append.2 ⟨h.ascB.take, List.pairwise_cons.2 ⟨fun v hv => sp.2 v hv, h.ascB.drop⟩, fun u hu v hv => ?_⟩
    have hcu : tl kW c u = false := hS.asymmA (sp.1 u hu)
    rcases List.mem_cons.1 hv with rfl | hv
    · exact hcu
    · exact hS.ntrans _ _ _ (sp.2 v hv) hcu

theorem get_of {d : Array Nat} {i x : Nat} (h : d.toList[i]? = some x) : d[i]! = x := by
  have hi : i < d.size := by
    rcases Nat.lt_or_ge i d.size with c | c
    · exact c
    · rw [List.getElem?_eq_none (by simpa using c)] at h; cases h
  rw [getElem!_pos d i hi]
  rw [List.getElem?_eq_getElem (by simpa using hi)] at h
  simpa using h

theorem map_get (d : Array Nat) (f : Nat → Nat) (i : Nat) (hi : i < d.size) : (d.toList.map f)[i]? = some (f d[i]!) := by
  rw [List.getElem?_map, List.getElem?_eq_getElem (by simpa using hi), getElem!_pos d i hi]
  rfl

theorem Ins1.before (h : Ins1 n c kB kW dB dW) {k : Nat} (hk : k < pos kW n c) : dW[k]! = up c dB[k]! := by
  have hp : pos kW n c ≤ n := pos_le
  apply get_of
  rw [h.eq, List.getElem?_append_left (by rw [List.length_take, List.length_map, Array.length_toList, h.zB]; omega), List.getElem?_take, if_pos hk]
  exact map_get dB _ k (by rw [h.zB]; omega)

theorem Ins1.at (h : Ins1 n c kB kW dB dW) : dW[pos kW n c]! = c := by
  have hp : pos kW n c ≤ n := pos_le
  apply get_of
  rw [h.eq, List.getElem?_append_right (by rw [List.length_take, List.length_map, Array.length_toList, h.zB]; omega), List.length_take, List.length_map, Array.length_toList, h.zB, Nat.min_eq_left hp, Nat.sub_self]
  rfl

theorem Ins1.behind (h : Ins1 n c kB kW dB dW) {k : Nat} (hk : pos kW n c ≤ k) (hn : k < n) : dW[k + 1]! = up c dB[k]! := by
  have hp : pos kW n c ≤ n := pos_le
  apply get_of
  rw [h.eq, List.getElem?_append_right (by rw [List.length_take, List.length_map, Array.length_toList, h.zB]; omega), List.length_take, List.length_map, Array.length_toList, h.zB, Nat.min_eq_left hp, show k + 1 - pos kW n c = (k - pos kW n c) + 1 by omega, List.getElem?_cons_succ, List.getElem?_drop, show pos kW n c + (k - pos kW n c) = k by omega]
  exact map_get dB _ k (by rw [h.zB]; exact hn)

end Go.Proofs.Qxb6614512a.M
