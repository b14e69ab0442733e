/-
  FnSortPricesJoinIsStableMergeOfParts: the walk.
-/
import Derived.Test.Qxb6614512aTools
namespace Go.Proofs.Qxb6614512a
open Go.Shelf Go.RowKit Go.Lib Go.Sort

/-- Two lists of strings, one behind the other. -/
def jn (n : Nat) (s s' : Nat → ByteArray) (i : Nat) : ByteArray := if i < n then s i else s' (i - n)
theorem jn_lo {n i : Nat} (s s' : Nat → ByteArray) (h : i < n) : jn n s s' i = s i := if_pos h
theorem jn_hi (n i : Nat) (s s' : Nat → ByteArray) : jn n s s' (n + i) = s' i := by
  unfold jn
  rw [if_neg (by omega), Nat.add_sub_cancel_left]

/-- The two sorted lists and the sorted joined one stand as the plain law asks. -/
theorem join_of (nA nC N : Nat) (hN : N = nA + nC) (sA sC : Nat → ByteArray) (dA dC dJ : Array Nat) (zA : dA.size = nA) (zC : dC.size = nC) (zJ : dJ.size = N)
    (tA : ∀ i, i < nA → dA[i]! < nA) (tC : ∀ i, i < nC → dC[i]! < nC) (pA : PermIn 0 nA (Array.range nA) dA) (pC : PermIn 0 nC (Array.range nC) dC) (pJ : PermIn 0 N (Array.range N) dJ)
    (oA : SortedIn (M.tl (klOf sA)) 0 nA dA) (oC : SortedIn (M.tl (klOf sC)) 0 nC dC) (oJ : SortedIn (M.tl (klOf (jn nA sA sC))) 0 N dJ) :
    M.Join nA nC (klOf sA) (klOf sC) (klOf (jn nA sA sC)) dA dC dJ := by
  subst hN
  exact ⟨zA, zC, zJ, tA, tC, pA, pC, pJ, oA, oC, oJ, kl_swo _, fun u v hu hv => by unfold klOf; rw [jn_lo sA sC hu, jn_lo sA sC hv], fun u v _ _ => by unfold klOf; rw [jn_hi, jn_hi]⟩


set_option maxHeartbeats 8000000 in
set_option maxRecDepth 100000 in
theorem join_law (pA : Option Addr) (nA cA : Nat) (sA : Nat → ByteArray) (pB : Option Addr) (nB cB : Nat) (sB : Nat → ByteArray) (pC : Option Addr) (nC cC : Nat) (sC : Nat → ByteArray) (pD : Option Addr) (nD cD : Nat) (sD : Nat → ByteArray) (w : World) (hAA : Hid (Arg pA nA cA sA w.heap.size w)) (hnA : nA ≤ 9223372036854775807) (hzA : Hid (∀ i, i < nA → (sA i).size ≤ 9223372036854775807)) (hAB : Hid (Arg pB nB cB sB w.heap.size w)) (hnB : nB ≤ 9223372036854775807) (hzB : Hid (∀ i, i < nB → (sB i).size ≤ 9223372036854775807)) (hAC : Hid (Arg pC nC cC sC w.heap.size w)) (hnC : nC ≤ 9223372036854775807) (hzC : Hid (∀ i, i < nC → (sC i).size ≤ 9223372036854775807)) (hAD : Hid (Arg pD nD cD sD w.heap.size w)) (hnD : nD ≤ 9223372036854775807) (hzD : Hid (∀ i, i < nD → (sD i).size ≤ 9223372036854775807)) :
    Calls Try.prog 3 #[.slice pA nA cA, .slice pB nB cB, .slice pC nC cC, .slice pD nD cD] w (LawPost w) := by
  have mixed : Try.prog.follows .mixedOrders = true := by kernel_rfl
  go_enter Try.func3, Try.ntmps3
  go_wp2_with fail
  refine (bytes4_any pA nA cA sA pB nB cB sB pC nC cC sC pD nD cD sD w.heap.size w hAA.out.str hnA hzA hAB.out.str hnB hzB hAC.out.str hnC hzC hAD.out.str hnD hzD).mono ?_
  rintro e w1 ⟨b, he, hw, hsm⟩
  rw [he, hw]
  clear he hw
  cases b
  case false => go_wp2; go_ret; exact lawPost_early rfl
  case true =>
  obtain ⟨smA, smB, smC, smD⟩ := hsm rfl
  have ZA : Hid (∀ i, i < nA → (sA i).size ≤ 1048576) := smA.2
  have ZB : Hid (∀ i, i < nB → (sB i).size ≤ 1048576) := smB.2
  have ZC : Hid (∀ i, i < nC → (sC i).size ≤ 1048576) := smC.2
  have ZD : Hid (∀ i, i < nD → (sD i).size ≤ 1048576) := smD.2
  have mA : nA ≤ 1048576 := smA.1
  have mB : nB ≤ 1048576 := smB.1
  have mC : nC ≤ 1048576 := smC.1
  have mD : nD ≤ 1048576 := smD.1
  clear hsm smA smB smC smD hzA hzB hzC hzD hnA hnB hnC hnD
  by_cases lA : nA ≤ 65536
  case neg =>
    have lAz : (65536 : Int) < (nA : Int) := by omega
    go_wp2; go_ret; exact lawPost_early rfl
  case pos =>
  have lAz : ¬ (65536 : Int) < (nA : Int) := by omega
  by_cases lB : nB ≤ 65536
  case neg =>
    have lBz : (65536 : Int) < (nB : Int) := by omega
    go_wp2; go_ret; exact lawPost_early rfl
  case pos =>
  have lBz : ¬ (65536 : Int) < (nB : Int) := by omega
  by_cases lC : nC ≤ 65536
  case neg =>
    have lCz : (65536 : Int) < (nC : Int) := by omega
    go_wp2; go_ret; exact lawPost_early rfl
  case pos =>
  have lCz : ¬ (65536 : Int) < (nC : Int) := by omega
  by_cases lD : nD ≤ 65536
  case neg =>
    have lDz : (65536 : Int) < (nD : Int) := by omega
    go_wp2; go_ret; exact lawPost_early rfl
  case pos =>
  have lDz : ¬ (65536 : Int) < (nD : Int) := by omega
  go_wp2_with fail
  refine (spend_any pA nA cA w.heap.size sA 1048576 w hAA.out.str ZA.out (by omega) (by omega) mA).mono ?_
  rintro e w2 ⟨rA, he, hw, hrA⟩
  rw [he, hw]
  clear he hw
  by_cases gA : rA < 0
  case pos => go_wp2; go_ret; exact lawPost_early rfl
  case neg =>
  go_wp2_with fail
  refine (spend_any pB nB cB w.heap.size sB rA w hAB.out.str ZB.out (by omega) (by omega) mB).mono ?_
  rintro e w2 ⟨rB, he, hw, hrB⟩
  rw [he, hw]
  clear he hw
  by_cases gB : rB < 0
  case pos => go_wp2; go_ret; exact lawPost_early rfl
  case neg =>
  go_wp2_with fail
  refine (spend_any pC nC cC w.heap.size sC rB w hAC.out.str ZC.out (by omega) (by omega) mC).mono ?_
  rintro e w2 ⟨rC, he, hw, hrC⟩
  rw [he, hw]
  clear he hw
  by_cases gC : rC < 0
  case pos => go_wp2; go_ret; exact lawPost_early rfl
  case neg =>
  go_wp2_with fail
  refine (spend_any pD nD cD w.heap.size sD rC w hAD.out.str ZD.out (by omega) (by omega) mD).mono ?_
  rintro e w2 ⟨rD, he, hw, hrD⟩
  rw [he, hw]
  clear he hw
  by_cases gD : rD < 0
  case pos => go_wp2; go_ret; exact lawPost_early rfl
  case neg =>
  by_cases qA : nA = nB
  case neg =>
    have qAz : ((nA : Int) != (nB : Int)) = true := by rw [bne_iff_ne]; omega
    go_wp2; go_ret; exact lawPost_early rfl
  case pos =>
  subst qA
  by_cases qC : nC = nD
  case neg =>
    have qCz : ((nC : Int) != (nD : Int)) = true := by rw [bne_iff_ne]; omega
    go_wp2; go_ret; exact lawPost_early rfl
  case pos =>
  subst qC
  clear w1 w2 lA lB lC lD mB mD gA gB gC hrA hrB hrC hrD ZA ZB ZC ZD lBz lDz
  go_wp2_with fail
  refine (clone_any pA nA cA sA w hAA.out mA).mono ?_
  rintro e u1 ⟨qA, kA, rfl, strA, b1⟩
  go_wp2_with fail
  refine (clone_any pB nA cB sB u1 (hAB.out.next b1) mA).mono ?_
  rintro e u2 ⟨qB, kB, rfl, strB, b2⟩
  go_wp2_with fail
  refine (clone_any pC nC cC sC u2 ((hAC.out.next b1).next b2) mC).mono ?_
  rintro e u3 ⟨qC, kC, rfl, strC, b3⟩
  go_wp2_with fail
  refine (clone_any pD nC cD sD u3 (((hAD.out.next b1).next b2).next b3) mC).mono ?_
  rintro e u4 ⟨qD, kD, rfl, strD, b4⟩
  have strA := ((strA.next b2).next b3).next b4
  have strB := (strB.next b3).next b4
  have strC := strC.next b4
  have bw : Below w.heap.size w u4 := ((b1.trans (b2.mono b1.size)).trans (b3.mono (Nat.le_trans b1.size b2.size))).trans (b4.mono (Nat.le_trans b1.size (Nat.le_trans b2.size b3.size)))
  clear b1 b2 b3 b4 hAA hAB hAC hAD
  obtain ⟨N, hN⟩ : ∃ N : Nat, N = nA + nC := ⟨_, rfl⟩
  have eN : (nA : Int) + nC = N := by omega
  have HN : Hid (N = nA + nC) := hN
  have mN : N ≤ 131072 := by omega
  have zN : 0 ≤ N := Nat.zero_le _
  clear hN zN
  have hmk := run_make_row' (P := Try.prog) 22 9 (.string ByteArray.empty) 16 Try.underlying22 Try.info9 rfl .i64 .i64 N (by omega) (by omega)
  obtain ⟨J, hJ⟩ : ∃ J, u4.heap.size = J := ⟨_, rfl⟩
  rw [hJ] at strA strB strC strD
  go_wp2
  go_loopg [14] nA (fun kx s wr => ∃ k : Nat, s = .int .i64 k ∧ k ≤ nA ∧ nA - k ≤ kx ∧ wr.rowIs J 9 N (fill (jn nA sA sC) k) ∧ wr.rowIs (J + 1) 9 N (fill (jn nA sB sD) k) ∧ Hid (wr.heap.size = J + 1 + 1) ∧ Below J u4 wr)
  case atStart =>
    have r0 := World.rowIs_made u4 (.string ByteArray.empty) N 9
    have r1 := World.rowIs_made (u4.alloc (.cells (madeCells #[.string ByteArray.empty] N) 9)) (.string ByteArray.empty) N 9
    rw [World.size_alloc, hJ] at r1
    rw [hJ] at r0
    exact ⟨0, rfl, Nat.zero_le _, Nat.le_refl _, (r0.alloc _).congr (fun i _ => (fill_zero _ i).symm), r1.congr (fun i _ => (fill_zero _ i).symm), (by show _ = _; rw [World.size_alloc, World.size_alloc, hJ]), ((Below.refl _ _).alloc (by omega) _).alloc (by rw [World.size_alloc]; omega) _⟩
  case round =>
  clear hmk
  obtain ⟨k, rfl, hk, hkx, hr1, hr2, HSz, hbl⟩ := hrel
  by_cases hlt : k < nA
  case pos =>
    have hltz : (k : Int) < (nA : Int) := by omega
    have hkN : k < N := by have := HN.out; omega
    have hkNz : (k : Int) < (N : Int) := by omega
    obtain ⟨b, off, rfl, hb, hc⟩ := strA.resolve_left (by omega)
    obtain ⟨b2, off2, rfl, hb2, hc2⟩ := strB.resolve_left (by omega)
    have c0 : wr.cell? ⟨b, off + k, none⟩ = some (.string (sA k)) := (hbl.cell (p := ⟨b, off + k, none⟩) hb).trans (hc k hlt)
    have c1 : (wr.setCell ⟨J, k, none⟩ (.string (sA k))).cell? ⟨b2, off2 + k, none⟩ = some (.string (sB k)) := ((hbl.setCell (p := ⟨J, k, none⟩) (Nat.le_refl _) _).cell (p := ⟨b2, off2 + k, none⟩) hb2).trans (hc2 k hlt)
    have e1 : wr.cell? ⟨J, k, none⟩ = some (fill (jn nA sA sC) k k) := hr1.cell hkN
    have f1 : wr.frozen? ⟨J, k, none⟩ = false := hr1.frozen k
    have q2 := hr2.setOther (a := ⟨J, k, none⟩) (by show J + 1 ≠ J; omega) (.string (sA k))
    have e2 : (wr.setCell ⟨J, k, none⟩ (.string (sA k))).cell? ⟨J + 1, k, none⟩ = some (fill (jn nA sB sD) k k) := q2.cell hkN
    have f2 : (wr.setCell ⟨J, k, none⟩ (.string (sA k))).frozen? ⟨J + 1, k, none⟩ = false := q2.frozen k
    have R1 := ((hr1.set k (.string (sA k))).setOther (a := ⟨J + 1, k, none⟩) (by show J ≠ J + 1; omega) (.string (sB k))).congr (g := fill (jn nA sA sC) (k + 1)) (fun i _ => by have := fill_step (jn nA sA sC) k i; rw [jn_lo sA sC hlt] at this; exact this)
    have R2 := (q2.set k (.string (sB k))).congr (g := fill (jn nA sB sD) (k + 1)) (fun i _ => by have := fill_step (jn nA sB sD) k i; rw [jn_lo sB sD hlt] at this; exact this)
    have HS2 : Hid (((wr.setCell ⟨J, k, none⟩ (.string (sA k))).setCell ⟨J + 1, k, none⟩ (.string (sB k))).heap.size = J + 1 + 1) := by show _ = _; simp; exact HSz.out
    have hbl2 := (hbl.setCell (p := ⟨J, k, none⟩) (Nat.le_refl _) (.string (sA k))).setCell (p := ⟨J + 1, k, none⟩) (by show J ≤ J + 1; omega) (.string (sB k))
    generalize fill (jn nA sA sC) k k = v1 at e1
    generalize fill (jn nA sB sD) k k = v2 at e2
    clear hc hc2 q2 hr1 hr2 hbl
    go_wp2
    go_roundg (nA - (k + 1))
    case measure => omega
    case rel => exact ⟨k + 1, by go_num, by omega, Nat.le_refl _, R1, R2, HS2, hbl2⟩
  case neg =>
  have hltz : ¬ (k : Int) < (nA : Int) := by omega
  have hkn : Hid (k = nA) := by show _ = _; omega
  go_wp2_with fail
  go_loopg [15] nC (fun kx s wr => ∃ k : Nat, s = .int .i64 k ∧ k ≤ nC ∧ nC - k ≤ kx ∧ wr.rowIs J 9 N (fill (jn nA sA sC) (nA + k)) ∧ wr.rowIs (J + 1) 9 N (fill (jn nA sB sD) (nA + k)) ∧ Hid (wr.heap.size = J + 1 + 1) ∧ Below J u4 wr)
  case atStart => exact ⟨0, rfl, Nat.zero_le _, Nat.le_refl _, (by have h := hr1; rw [hkn.out] at h; exact h), (by have h := hr2; rw [hkn.out] at h; exact h), HSz, hbl⟩
  case round =>
  clear hr1 hr2 HSz hbl hk hkx hltz hlt hkn
  obtain ⟨k2, rfl, hk2, hkx2, hr1, hr2, HSz, hbl⟩ := hrel
  by_cases hlt : k2 < nC
  case pos =>
    have hltz : (k2 : Int) < (nC : Int) := by omega
    obtain ⟨m, hm⟩ : ∃ m : Nat, m = nA + k2 := ⟨_, rfl⟩
    have em : (nA : Int) + k2 = m := by omega
    have HM : Hid (nA + k2 = m) := hm.symm
    have hmN : m < N := by have := HN.out; omega
    have hmNz : (m : Int) < (N : Int) := by omega
    clear hm
    rw [HM.out] at hr1 hr2
    have ej1 : Hid (jn nA sA sC m = sC k2) := by show _ = _; rw [← HM.out]; exact jn_hi _ _ _ _
    have ej2 : Hid (jn nA sB sD m = sD k2) := by show _ = _; rw [← HM.out]; exact jn_hi _ _ _ _
    obtain ⟨b, off, rfl, hb, hc⟩ := strC.resolve_left (by omega)
    obtain ⟨b2, off2, rfl, hb2, hc2⟩ := strD.resolve_left (by omega)
    have c0 : wr.cell? ⟨b, off + k2, none⟩ = some (.string (sC k2)) := (hbl.cell (p := ⟨b, off + k2, none⟩) hb).trans (hc k2 hlt)
    have c1 : (wr.setCell ⟨J, m, none⟩ (.string (sC k2))).cell? ⟨b2, off2 + k2, none⟩ = some (.string (sD k2)) := ((hbl.setCell (p := ⟨J, m, none⟩) (Nat.le_refl _) _).cell (p := ⟨b2, off2 + k2, none⟩) hb2).trans (hc2 k2 hlt)
    have e1 : wr.cell? ⟨J, m, none⟩ = some (fill (jn nA sA sC) m m) := hr1.cell hmN
    have f1 : wr.frozen? ⟨J, m, none⟩ = false := hr1.frozen m
    have q2 := hr2.setOther (a := ⟨J, m, none⟩) (by show J + 1 ≠ J; omega) (.string (sC k2))
    have e2 : (wr.setCell ⟨J, m, none⟩ (.string (sC k2))).cell? ⟨J + 1, m, none⟩ = some (fill (jn nA sB sD) m m) := q2.cell hmN
    have f2 : (wr.setCell ⟨J, m, none⟩ (.string (sC k2))).frozen? ⟨J + 1, m, none⟩ = false := q2.frozen m
    have R1 := ((hr1.set m (.string (sC k2))).setOther (a := ⟨J + 1, m, none⟩) (by show J ≠ J + 1; omega) (.string (sD k2))).congr (g := fill (jn nA sA sC) (m + 1)) (fun i _ => by have := fill_step (jn nA sA sC) m i; rw [ej1.out] at this; exact this)
    have R2 := (q2.set m (.string (sD k2))).congr (g := fill (jn nA sB sD) (m + 1)) (fun i _ => by have := fill_step (jn nA sB sD) m i; rw [ej2.out] at this; exact this)
    have HS2 : Hid (((wr.setCell ⟨J, m, none⟩ (.string (sC k2))).setCell ⟨J + 1, m, none⟩ (.string (sD k2))).heap.size = J + 1 + 1) := by show _ = _; simp; exact HSz.out
    have hbl2 := (hbl.setCell (p := ⟨J, m, none⟩) (Nat.le_refl _) (.string (sC k2))).setCell (p := ⟨J + 1, m, none⟩) (by show J ≤ J + 1; omega) (.string (sD k2))
    generalize fill (jn nA sA sC) m m = v1 at e1
    generalize fill (jn nA sB sD) m m = v2 at e2
    clear hc hc2 q2 hr1 hr2 hbl
    go_wp2
    go_roundg (nC - (k2 + 1))
    case measure => omega
    case rel =>
      have hmm := HM.out
      have e3 : nA + (k2 + 1) = m + 1 := by omega
      refine ⟨k2 + 1, by go_num, by omega, Nat.le_refl _, ?_, ?_, HS2, hbl2⟩
      · rw [e3]; exact R1
      · rw [e3]; exact R2
  case neg =>
  have hltz : ¬ (k2 : Int) < (nC : Int) := by omega
  have hkn : Hid (nA + k2 = N) := by show _ = _; have := HN.out; omega
  have rJ1 : wr.rowIs J 9 N (fun i => .string (jn nA sA sC i)) := hr1.congr (fun i hi => by rw [hkn.out]; exact fill_full _ N i hi)
  have rJ2 : wr.rowIs (J + 1) 9 N (fun i => .string (jn nA sB sD i)) := hr2.congr (fun i hi => by rw [hkn.out]; exact fill_full _ N i hi)
  clear hr1 hr2 hkn
  have strA := (strA.below hbl).mono (by have := HSz.out; omega : J ≤ wr.heap.size)
  have strB := (strB.below hbl).mono (by have := HSz.out; omega : J ≤ wr.heap.size)
  have strC := (strC.below hbl).mono (by have := HSz.out; omega : J ≤ wr.heap.size)
  have strD := (strD.below hbl).mono (by have := HSz.out; omega : J ≤ wr.heap.size)
  have bw2 : Below w.heap.size w wr := bw.trans (hbl.mono (by have := bw.size; omega))
  have strE := Str.of_row rJ1
  have strF := Str.of_row rJ2
  clear rJ1 rJ2 bw hbl hJ HSz
  go_wp2_with fail
  refine (priceList_any qA qB nA kA kB sA sB wr strA strB mA).mono ?_
  rintro e v1 ⟨rfl, rE, rP, rK, hs1, b1⟩
  have T1 : Tri wr.heap.size nA sA sB v1 := ⟨rE, rP, rK⟩
  have strC := strC.next b1
  have strD := strD.next b1
  have strE := strE.next b1
  have strF := strF.next b1
  have HB1 : Hid (v1.heap.size = wr.heap.size + 1 + 1 + 1) := hs1
  clear rE rP rK hs1 strA strB
  go_wp2_with fail
  refine (priceList_any qC qD nC kC kD sC sD v1 strC strD mC).mono ?_
  rintro e v2 ⟨rfl, rE, rP, rK, hs2, b2⟩
  have T2 : Tri v1.heap.size nC sC sD v2 := ⟨rE, rP, rK⟩
  have T1 := T1.below b2
  have strE := strE.next b2
  have strF := strF.next b2
  have HB2 : Hid (v2.heap.size = v1.heap.size + 1 + 1 + 1) := hs2
  clear rE rP rK hs2 strC strD
  go_wp2_with fail
  refine (priceList_any (some ⟨J, 0, none⟩) (some ⟨J + 1, 0, none⟩) N N N (jn nA sA sC) (jn nA sB sD) v2 strE strF (by omega)).mono ?_
  rintro e v3 ⟨rfl, rE, rP, rK, hs3, b3⟩
  have T3 : Tri v2.heap.size N (jn nA sA sC) (jn nA sB sD) v3 := ⟨rE, rP, rK⟩
  have T1 := T1.below b3
  have T2 := T2.below b3
  have HB3 : Hid (v3.heap.size = v2.heap.size + 1 + 1 + 1) := hs3
  clear rE rP rK hs3 strE strF
  obtain ⟨P1, hP1⟩ : ∃ P1, wr.heap.size = P1 := ⟨_, rfl⟩
  obtain ⟨P2, hP2⟩ : ∃ P2, v1.heap.size = P2 := ⟨_, rfl⟩
  obtain ⟨P3, hP3⟩ : ∃ P3, v2.heap.size = P3 := ⟨_, rfl⟩
  have bw3 : Below w.heap.size w v3 := ((bw2.trans (b1.mono bw2.size)).trans (b2.mono (Nat.le_trans bw2.size b1.size))).trans (b3.mono (Nat.le_trans bw2.size (Nat.le_trans b1.size b2.size)))
  have W0 : Hid (w.heap.size ≤ P1) := by show _ ≤ _; rw [← hP1]; exact bw2.size
  clear b1 b2 b3 bw2
  rw [hP1] at T1 HB1
  rw [hP2] at T2 HB1 HB2
  rw [hP3] at T3 HB2 HB3
  rw [hP1, hP2, hP3]
  go_wp2_with fail
  refine (tri_sort P1 nA sA sB v3 T1 mA).mono ?_
  rintro e y1 ⟨rfl, K1, dA, zA, pmA, oA, V1⟩
  have T2 := T2.kept K1 (by have := HB1.out; omega) (by have := HB1.out; omega) (by have := HB1.out; omega)
  have T3 := T3.kept K1 (by have := HB1.out; have := HB2.out; omega) (by have := HB1.out; have := HB2.out; omega) (by have := HB1.out; have := HB2.out; omega)
  go_wp2_with fail
  refine (tri_sort P2 nC sC sD y1 T2 mC).mono ?_
  rintro e y2 ⟨rfl, K2, dC, zC, pmC, oC, V2⟩
  have T3 := T3.kept K2 (by have := HB2.out; omega) (by have := HB2.out; omega) (by have := HB2.out; omega)
  have V1 := V1.kept K2 (by have := HB1.out; omega) (by have := HB1.out; omega) (by have := HB1.out; omega)
  go_wp2_with fail
  refine (tri_sort P3 N (jn nA sA sC) (jn nA sB sD) y2 T3 (by omega)).mono ?_
  rintro e y3 ⟨rfl, K3, dJ, zJ, pmJ, oJ, V3⟩
  have V1 := V1.kept K3 (by have := HB1.out; have := HB2.out; omega) (by have := HB1.out; have := HB2.out; omega) (by have := HB1.out; have := HB2.out; omega)
  have V2 := V2.kept K3 (by have := HB2.out; omega) (by have := HB2.out; omega) (by have := HB2.out; omega)
  have bw4 : Below w.heap.size w y3 :=
    ((bw3.trans (K1.below (by have := W0.out; omega) bw3.size)).trans (K2.below (by have := W0.out; have := HB1.out; omega) (Nat.le_trans bw3.size K1.size))).trans (K3.below (by have := W0.out; have := HB1.out; have := HB2.out; omega) (Nat.le_trans bw3.size (Nat.le_trans K1.size K2.size)))
  have HJn : Hid (M.Join nA nC (klOf sA) (klOf sC) (klOf (jn nA sA sC)) dA dC dJ) := join_of nA nC N HN.out sA sC dA dC dJ zA zC zJ V1.t V2.t pmA pmC pmJ oA oC oJ
  have HO : Hid (SortedIn (M.tl (klOf (jn nA sA sC))) 0 N dJ) := oJ
  clear K1 K2 K3 T1 T2 T3 bw3 zA zC zJ pmA pmC pmJ oA oC oJ HB1 HB2 HB3 W0
  go_wp2_with fail
  go_loopg [19, 20, 21] N (fun kx s1 s2 s3 wr => ∃ (x y k : Nat), s1 = .int .i64 x ∧ s2 = .int .i64 y ∧ s3 = .int .i64 k ∧ k ≤ N ∧ N - k ≤ kx ∧ Hid (M.MInv nA nC dA dC dJ x y k) ∧ TriV P1 nA sA sB dA wr ∧ TriV P2 nC sC sD dC wr ∧ TriV P3 N (jn nA sA sC) (jn nA sB sD) dJ wr ∧ Below w.heap.size w wr)
  case atStart => exact ⟨0, 0, 0, rfl, rfl, rfl, Nat.zero_le _, Nat.le_refl _, HJn.out.start, V1, V2, V3, bw4⟩
  case round =>
  clear V1 V2 V3 bw4
  obtain ⟨x, y, k, rfl, rfl, rfl, hkN, hkx3, HM, V1, V2, V3, bw⟩ := hrel
  by_cases hkl : k < N
  case neg =>
    have hklz : ¬ (k : Int) < (N : Int) := by omega
    go_wp2
    go_ret
    exact ⟨rfl, bw⟩
  case pos =>
  have hklz : (k : Int) < (N : Int) := by omega
  have hxA : x ≤ nA := HM.out.2.1
  have hyC : y ≤ nC := HM.out.2.2.1
  have hkxy : Hid (k = x + y) := HM.out.1
  by_cases cy : y < nC
  · by_cases cx : nA ≤ x
    · by_cases k0 : k = 0
      · have fy : (y : Int) < (nC : Int) := by omega
        obtain ⟨yv, hyv⟩ : ∃ yv, dC[y]! = yv := ⟨_, rfl⟩
        obtain ⟨a1, a2, a3, a4⟩ := V2.at (i := y) (by omega) hyv
        have fx : (nA : Int) ≤ (x : Int) := by omega
        obtain ⟨ez, HM2⟩ := HJn.out.right HM.out (by omega) (fun h => by omega)
        have HMn : Hid _ := HM2
        rw [hyv] at ez
        obtain ⟨z, hz⟩ : ∃ z, nA + yv = z := ⟨_, rfl⟩
        rw [hz] at ez
        obtain ⟨d1, d2, d3, d4⟩ := V3.at (i := k) hkl ez
        rw [← hz, jn_hi] at d3 d4
        have ekey : jn nA sA sC dJ[k]! = sC yv := by rw [ez, ← hz]; exact jn_hi _ _ _ _
        rw [hz] at d3 d4
        subst k0
        simp only [Nat.zero_mul, Nat.zero_add] at d1 d2
        have hN0 : (0 : Int) < (N : Int) := by omega
        have HV : Hid (TriV P1 nA sA sB dA wr ∧ TriV P2 nC sC sD dC wr ∧ TriV P3 N (jn nA sA sC) (jn nA sB sD) dJ wr ∧ Below w.heap.size w wr) := ⟨V1, V2, V3, bw⟩
        clear HM2 ekey ez V1 V2 V3 bw HM hz hyv
        go_wp2_with fail
        go_quiet (fail)
        go_wp2_with fail
        go_quiet (fail)
        go_wp2
        go_roundg (N - (0 + 1))
        case measure => omega
        case rel => exact ⟨x, y + 1, 0 + 1, by first | rfl | go_num, by first | rfl | go_num, by first | rfl | go_num | simp, by omega, Nat.le_refl _, HMn.out, HV.out.1.drewN _, HV.out.2.1.drewN _, HV.out.2.2.1.drewN _, below_drewN HV.out.2.2.2 _⟩
      · have fy : (y : Int) < (nC : Int) := by omega
        obtain ⟨yv, hyv⟩ : ∃ yv, dC[y]! = yv := ⟨_, rfl⟩
        obtain ⟨a1, a2, a3, a4⟩ := V2.at (i := y) (by omega) hyv
        have fx : (nA : Int) ≤ (x : Int) := by omega
        obtain ⟨ez, HM2⟩ := HJn.out.right HM.out (by omega) (fun h => by omega)
        have HMn : Hid _ := HM2
        rw [hyv] at ez
        obtain ⟨z, hz⟩ : ∃ z, nA + yv = z := ⟨_, rfl⟩
        rw [hz] at ez
        obtain ⟨d1, d2, d3, d4⟩ := V3.at (i := k) hkl ez
        rw [← hz, jn_hi] at d3 d4
        have ekey : jn nA sA sC dJ[k]! = sC yv := by rw [ez, ← hz]; exact jn_hi _ _ _ _
        rw [hz] at d3 d4
        obtain ⟨kp, rfl⟩ : ∃ kp, k = kp + 1 := ⟨k - 1, by omega⟩
        have fk : (0 : Int) < (kp : Int) + 1 := by omega
        obtain ⟨zp, hzp⟩ : ∃ zp, dJ[kp]! = zp := ⟨_, rfl⟩
        obtain ⟨g1, g2, g3, g4⟩ := V3.at (i := kp) (by omega) hzp
        have fl : Op.bytesLess (sC yv).toList (jn nA sA sC zp).toList = false := by
          have h := M.key_up HO.out (i := kp) hkl
          unfold klOf at h
          rw [ekey, hzp] at h
          rw [bl_eq]; exact h
        generalize jn nA sA sC zp = sz at g3 fl
        have rkp : IntKind.i64.wrap (kp : Int) = (kp : Int) := by rw [IntKind.wrap_i64]; omega
        have kz1 : (kp : Int) < (N : Int) := by omega
        have kz2 : (kp : Int) + 1 < (N : Int) := by omega
        have kz3 : (0 : Int) ≤ (kp : Int) + 1 := by omega
        have kz4 : ((kp : Int) + 1).toNat = kp + 1 := by omega
        have HV : Hid (TriV P1 nA sA sB dA wr ∧ TriV P2 nC sC sD dC wr ∧ TriV P3 N (jn nA sA sC) (jn nA sB sD) dJ wr ∧ Below w.heap.size w wr) := ⟨V1, V2, V3, bw⟩
        clear HM2 ekey ez V1 V2 V3 bw HM hz hyv hzp
        go_wp2_with fail
        go_quiet (fail)
        go_wp2_with fail
        go_quiet (fail)
        go_wp2
        go_roundg (N - (kp + 1 + 1))
        case measure => omega
        case rel => exact ⟨x, y + 1, kp + 1 + 1, by first | rfl | go_num, by first | rfl | go_num, by first | rfl | go_num | simp, by omega, Nat.le_refl _, HMn.out, HV.out.1.drewN _, HV.out.2.1.drewN _, HV.out.2.2.1.drewN _, below_drewN HV.out.2.2.2 _⟩
    · cases hbl : ltStr (sC dC[y]!).data.toList (sA dA[x]!).data.toList
      · by_cases k0 : k = 0
        · have fy : (y : Int) < (nC : Int) := by omega
          obtain ⟨yv, hyv⟩ : ∃ yv, dC[y]! = yv := ⟨_, rfl⟩
          obtain ⟨a1, a2, a3, a4⟩ := V2.at (i := y) (by omega) hyv
          obtain ⟨xv, hxv⟩ : ∃ xv, dA[x]! = xv := ⟨_, rfl⟩
          obtain ⟨b1, b2, b3, b4⟩ := V1.at (i := x) (by omega) hxv
          have fx : ¬ (nA : Int) ≤ (x : Int) := by omega
          have fx2 : (x : Int) < (nA : Int) := by omega
          have fb : Op.bytesLess (sC yv).toList (sA xv).toList = false := by rw [bl_eq, ← hyv, ← hxv]; exact hbl
          obtain ⟨ez, HM2⟩ := HJn.out.left HM.out (by omega) (fun _ => by unfold klOf; rw [jn_hi, jn_lo sA sC (V1.t x (by omega))]; exact hbl)
          have HMn : Hid _ := HM2
          rw [hxv] at ez
          have hxl : xv < nA := by rw [← hxv]; exact V1.t x (by omega)
          obtain ⟨d1, d2, d3, d4⟩ := V3.at (i := k) hkl ez
          rw [jn_lo sA sC hxl] at d3
          rw [jn_lo sB sD hxl] at d4
          have ekey : jn nA sA sC dJ[k]! = sA xv := by rw [ez]; exact jn_lo sA sC hxl
          subst k0
          simp only [Nat.zero_mul, Nat.zero_add] at d1 d2
          have hN0 : (0 : Int) < (N : Int) := by omega
          have HV : Hid (TriV P1 nA sA sB dA wr ∧ TriV P2 nC sC sD dC wr ∧ TriV P3 N (jn nA sA sC) (jn nA sB sD) dJ wr ∧ Below w.heap.size w wr) := ⟨V1, V2, V3, bw⟩
          clear HM2 ekey ez V1 V2 V3 bw HM hyv hxv hxl hbl
          go_wp2_with fail
          go_quiet (fail)
          go_wp2_with fail
          go_quiet (fail)
          go_wp2
          go_roundg (N - (0 + 1))
          case measure => omega
          case rel => exact ⟨x + 1, y, 0 + 1, by first | rfl | go_num, by first | rfl | go_num, by first | rfl | go_num | simp, by omega, Nat.le_refl _, HMn.out, HV.out.1.drewN _, HV.out.2.1.drewN _, HV.out.2.2.1.drewN _, below_drewN HV.out.2.2.2 _⟩
        · have fy : (y : Int) < (nC : Int) := by omega
          obtain ⟨yv, hyv⟩ : ∃ yv, dC[y]! = yv := ⟨_, rfl⟩
          obtain ⟨a1, a2, a3, a4⟩ := V2.at (i := y) (by omega) hyv
          obtain ⟨xv, hxv⟩ : ∃ xv, dA[x]! = xv := ⟨_, rfl⟩
          obtain ⟨b1, b2, b3, b4⟩ := V1.at (i := x) (by omega) hxv
          have fx : ¬ (nA : Int) ≤ (x : Int) := by omega
          have fx2 : (x : Int) < (nA : Int) := by omega
          have fb : Op.bytesLess (sC yv).toList (sA xv).toList = false := by rw [bl_eq, ← hyv, ← hxv]; exact hbl
          obtain ⟨ez, HM2⟩ := HJn.out.left HM.out (by omega) (fun _ => by unfold klOf; rw [jn_hi, jn_lo sA sC (V1.t x (by omega))]; exact hbl)
          have HMn : Hid _ := HM2
          rw [hxv] at ez
          have hxl : xv < nA := by rw [← hxv]; exact V1.t x (by omega)
          obtain ⟨d1, d2, d3, d4⟩ := V3.at (i := k) hkl ez
          rw [jn_lo sA sC hxl] at d3
          rw [jn_lo sB sD hxl] at d4
          have ekey : jn nA sA sC dJ[k]! = sA xv := by rw [ez]; exact jn_lo sA sC hxl
          obtain ⟨kp, rfl⟩ : ∃ kp, k = kp + 1 := ⟨k - 1, by omega⟩
          have fk : (0 : Int) < (kp : Int) + 1 := by omega
          obtain ⟨zp, hzp⟩ : ∃ zp, dJ[kp]! = zp := ⟨_, rfl⟩
          obtain ⟨g1, g2, g3, g4⟩ := V3.at (i := kp) (by omega) hzp
          have fl : Op.bytesLess (sA xv).toList (jn nA sA sC zp).toList = false := by
            have h := M.key_up HO.out (i := kp) hkl
            unfold klOf at h
            rw [ekey, hzp] at h
            rw [bl_eq]; exact h
          generalize jn nA sA sC zp = sz at g3 fl
          have rkp : IntKind.i64.wrap (kp : Int) = (kp : Int) := by rw [IntKind.wrap_i64]; omega
          have kz1 : (kp : Int) < (N : Int) := by omega
          have kz2 : (kp : Int) + 1 < (N : Int) := by omega
          have kz3 : (0 : Int) ≤ (kp : Int) + 1 := by omega
          have kz4 : ((kp : Int) + 1).toNat = kp + 1 := by omega
          have HV : Hid (TriV P1 nA sA sB dA wr ∧ TriV P2 nC sC sD dC wr ∧ TriV P3 N (jn nA sA sC) (jn nA sB sD) dJ wr ∧ Below w.heap.size w wr) := ⟨V1, V2, V3, bw⟩
          clear HM2 ekey ez V1 V2 V3 bw HM hyv hxv hxl hbl hzp
          go_wp2_with fail
          go_quiet (fail)
          go_wp2_with fail
          go_quiet (fail)
          go_wp2
          go_roundg (N - (kp + 1 + 1))
          case measure => omega
          case rel => exact ⟨x + 1, y, kp + 1 + 1, by first | rfl | go_num, by first | rfl | go_num, by first | rfl | go_num | simp, by omega, Nat.le_refl _, HMn.out, HV.out.1.drewN _, HV.out.2.1.drewN _, HV.out.2.2.1.drewN _, below_drewN HV.out.2.2.2 _⟩
      · by_cases k0 : k = 0
        · have fy : (y : Int) < (nC : Int) := by omega
          obtain ⟨yv, hyv⟩ : ∃ yv, dC[y]! = yv := ⟨_, rfl⟩
          obtain ⟨a1, a2, a3, a4⟩ := V2.at (i := y) (by omega) hyv
          obtain ⟨xv, hxv⟩ : ∃ xv, dA[x]! = xv := ⟨_, rfl⟩
          obtain ⟨b1, b2, b3, b4⟩ := V1.at (i := x) (by omega) hxv
          have fx : ¬ (nA : Int) ≤ (x : Int) := by omega
          have fx2 : (x : Int) < (nA : Int) := by omega
          have fb : Op.bytesLess (sC yv).toList (sA xv).toList = true := by rw [bl_eq, ← hyv, ← hxv]; exact hbl
          obtain ⟨ez, HM2⟩ := HJn.out.right HM.out (by omega) (fun _ => by unfold klOf; rw [jn_hi, jn_lo sA sC (V1.t x (by omega))]; exact hbl)
          have HMn : Hid _ := HM2
          rw [hyv] at ez
          obtain ⟨z, hz⟩ : ∃ z, nA + yv = z := ⟨_, rfl⟩
          rw [hz] at ez
          obtain ⟨d1, d2, d3, d4⟩ := V3.at (i := k) hkl ez
          rw [← hz, jn_hi] at d3 d4
          have ekey : jn nA sA sC dJ[k]! = sC yv := by rw [ez, ← hz]; exact jn_hi _ _ _ _
          rw [hz] at d3 d4
          subst k0
          simp only [Nat.zero_mul, Nat.zero_add] at d1 d2
          have hN0 : (0 : Int) < (N : Int) := by omega
          have HV : Hid (TriV P1 nA sA sB dA wr ∧ TriV P2 nC sC sD dC wr ∧ TriV P3 N (jn nA sA sC) (jn nA sB sD) dJ wr ∧ Below w.heap.size w wr) := ⟨V1, V2, V3, bw⟩
          clear HM2 ekey ez V1 V2 V3 bw HM hz hyv hxv hbl
          go_wp2_with fail
          go_quiet (fail)
          go_wp2_with fail
          go_quiet (fail)
          go_wp2
          go_roundg (N - (0 + 1))
          case measure => omega
          case rel => exact ⟨x, y + 1, 0 + 1, by first | rfl | go_num, by first | rfl | go_num, by first | rfl | go_num | simp, by omega, Nat.le_refl _, HMn.out, HV.out.1.drewN _, HV.out.2.1.drewN _, HV.out.2.2.1.drewN _, below_drewN HV.out.2.2.2 _⟩
        · have fy : (y : Int) < (nC : Int) := by omega
          obtain ⟨yv, hyv⟩ : ∃ yv, dC[y]! = yv := ⟨_, rfl⟩
          obtain ⟨a1, a2, a3, a4⟩ := V2.at (i := y) (by omega) hyv
          obtain ⟨xv, hxv⟩ : ∃ xv, dA[x]! = xv := ⟨_, rfl⟩
          obtain ⟨b1, b2, b3, b4⟩ := V1.at (i := x) (by omega) hxv
          have fx : ¬ (nA : Int) ≤ (x : Int) := by omega
          have fx2 : (x : Int) < (nA : Int) := by omega
          have fb : Op.bytesLess (sC yv).toList (sA xv).toList = true := by rw [bl_eq, ← hyv, ← hxv]; exact hbl
          obtain ⟨ez, HM2⟩ := HJn.out.right HM.out (by omega) (fun _ => by unfold klOf; rw [jn_hi, jn_lo sA sC (V1.t x (by omega))]; exact hbl)
          have HMn : Hid _ := HM2
          rw [hyv] at ez
          obtain ⟨z, hz⟩ : ∃ z, nA + yv = z := ⟨_, rfl⟩
          rw [hz] at ez
          obtain ⟨d1, d2, d3, d4⟩ := V3.at (i := k) hkl ez
          rw [← hz, jn_hi] at d3 d4
          have ekey : jn nA sA sC dJ[k]! = sC yv := by rw [ez, ← hz]; exact jn_hi _ _ _ _
          rw [hz] at d3 d4
          obtain ⟨kp, rfl⟩ : ∃ kp, k = kp + 1 := ⟨k - 1, by omega⟩
          have fk : (0 : Int) < (kp : Int) + 1 := by omega
          obtain ⟨zp, hzp⟩ : ∃ zp, dJ[kp]! = zp := ⟨_, rfl⟩
          obtain ⟨g1, g2, g3, g4⟩ := V3.at (i := kp) (by omega) hzp
          have fl : Op.bytesLess (sC yv).toList (jn nA sA sC zp).toList = false := by
            have h := M.key_up HO.out (i := kp) hkl
            unfold klOf at h
            rw [ekey, hzp] at h
            rw [bl_eq]; exact h
          generalize jn nA sA sC zp = sz at g3 fl
          have rkp : IntKind.i64.wrap (kp : Int) = (kp : Int) := by rw [IntKind.wrap_i64]; omega
          have kz1 : (kp : Int) < (N : Int) := by omega
          have kz2 : (kp : Int) + 1 < (N : Int) := by omega
          have kz3 : (0 : Int) ≤ (kp : Int) + 1 := by omega
          have kz4 : ((kp : Int) + 1).toNat = kp + 1 := by omega
          have HV : Hid (TriV P1 nA sA sB dA wr ∧ TriV P2 nC sC sD dC wr ∧ TriV P3 N (jn nA sA sC) (jn nA sB sD) dJ wr ∧ Below w.heap.size w wr) := ⟨V1, V2, V3, bw⟩
          clear HM2 ekey ez V1 V2 V3 bw HM hz hyv hxv hbl hzp
          go_wp2_with fail
          go_quiet (fail)
          go_wp2_with fail
          go_quiet (fail)
          go_wp2
          go_roundg (N - (kp + 1 + 1))
          case measure => omega
          case rel => exact ⟨x, y + 1, kp + 1 + 1, by first | rfl | go_num, by first | rfl | go_num, by first | rfl | go_num | simp, by omega, Nat.le_refl _, HMn.out, HV.out.1.drewN _, HV.out.2.1.drewN _, HV.out.2.2.1.drewN _, below_drewN HV.out.2.2.2 _⟩
  · have cx : x < nA := by have h1 := hkxy.out; have h2 := HN.out; omega
    by_cases k0 : k = 0
    · have fy : ¬ (y : Int) < (nC : Int) := by omega
      obtain ⟨xv, hxv⟩ : ∃ xv, dA[x]! = xv := ⟨_, rfl⟩
      obtain ⟨b1, b2, b3, b4⟩ := V1.at (i := x) (by omega) hxv
      have fx : ¬ (nA : Int) ≤ (x : Int) := by omega
      have fx2 : (x : Int) < (nA : Int) := by omega
      obtain ⟨ez, HM2⟩ := HJn.out.left HM.out (by omega) (fun h => by omega)
      have HMn : Hid _ := HM2
      rw [hxv] at ez
      have hxl : xv < nA := by rw [← hxv]; exact V1.t x (by omega)
      obtain ⟨d1, d2, d3, d4⟩ := V3.at (i := k) hkl ez
      rw [jn_lo sA sC hxl] at d3
      rw [jn_lo sB sD hxl] at d4
      have ekey : jn nA sA sC dJ[k]! = sA xv := by rw [ez]; exact jn_lo sA sC hxl
      subst k0
      simp only [Nat.zero_mul, Nat.zero_add] at d1 d2
      have hN0 : (0 : Int) < (N : Int) := by omega
      have HV : Hid (TriV P1 nA sA sB dA wr ∧ TriV P2 nC sC sD dC wr ∧ TriV P3 N (jn nA sA sC) (jn nA sB sD) dJ wr ∧ Below w.heap.size w wr) := ⟨V1, V2, V3, bw⟩
      clear HM2 ekey ez V1 V2 V3 bw HM hxv hxl
      go_wp2_with fail
      go_quiet (fail)
      go_wp2_with fail
      go_quiet (fail)
      go_wp2
      go_roundg (N - (0 + 1))
      case measure => omega
      case rel => exact ⟨x + 1, y, 0 + 1, by first | rfl | go_num, by first | rfl | go_num, by first | rfl | go_num | simp, by omega, Nat.le_refl _, HMn.out, HV.out.1.drewN _, HV.out.2.1.drewN _, HV.out.2.2.1.drewN _, below_drewN HV.out.2.2.2 _⟩
    · have fy : ¬ (y : Int) < (nC : Int) := by omega
      obtain ⟨xv, hxv⟩ : ∃ xv, dA[x]! = xv := ⟨_, rfl⟩
      obtain ⟨b1, b2, b3, b4⟩ := V1.at (i := x) (by omega) hxv
      have fx : ¬ (nA : Int) ≤ (x : Int) := by omega
      have fx2 : (x : Int) < (nA : Int) := by omega
      obtain ⟨ez, HM2⟩ := HJn.out.left HM.out (by omega) (fun h => by omega)
      have HMn : Hid _ := HM2
      rw [hxv] at ez
      have hxl : xv < nA := by rw [← hxv]; exact V1.t x (by omega)
      obtain ⟨d1, d2, d3, d4⟩ := V3.at (i := k) hkl ez
      rw [jn_lo sA sC hxl] at d3
      rw [jn_lo sB sD hxl] at d4
      have ekey : jn nA sA sC dJ[k]! = sA xv := by rw [ez]; exact jn_lo sA sC hxl
      obtain ⟨kp, rfl⟩ : ∃ kp, k = kp + 1 := ⟨k - 1, by omega⟩
      have fk : (0 : Int) < (kp : Int) + 1 := by omega
      obtain ⟨zp, hzp⟩ : ∃ zp, dJ[kp]! = zp := ⟨_, rfl⟩
      obtain ⟨g1, g2, g3, g4⟩ := V3.at (i := kp) (by omega) hzp
      have fl : Op.bytesLess (sA xv).toList (jn nA sA sC zp).toList = false := by
        have h := M.key_up HO.out (i := kp) hkl
        unfold klOf at h
        rw [ekey, hzp] at h
        rw [bl_eq]; exact h
      generalize jn nA sA sC zp = sz at g3 fl
      have rkp : IntKind.i64.wrap (kp : Int) = (kp : Int) := by rw [IntKind.wrap_i64]; omega
      have kz1 : (kp : Int) < (N : Int) := by omega
      have kz2 : (kp : Int) + 1 < (N : Int) := by omega
      have kz3 : (0 : Int) ≤ (kp : Int) + 1 := by omega
      have kz4 : ((kp : Int) + 1).toNat = kp + 1 := by omega
      have HV : Hid (TriV P1 nA sA sB dA wr ∧ TriV P2 nC sC sD dC wr ∧ TriV P3 N (jn nA sA sC) (jn nA sB sD) dJ wr ∧ Below w.heap.size w wr) := ⟨V1, V2, V3, bw⟩
      clear HM2 ekey ez V1 V2 V3 bw HM hxv hxl hzp
      go_wp2_with fail
      go_quiet (fail)
      go_wp2_with fail
      go_quiet (fail)
      go_wp2
      go_roundg (N - (kp + 1 + 1))
      case measure => omega
      case rel => exact ⟨x + 1, y, kp + 1 + 1, by first | rfl | go_num, by first | rfl | go_num, by first | rfl | go_num | simp, by omega, Nat.le_refl _, HMn.out, HV.out.1.drewN _, HV.out.2.1.drewN _, HV.out.2.2.1.drewN _, below_drewN HV.out.2.2.2 _⟩
end Go.Proofs.Qxb6614512a
