/-
  FnSortPricesOneEntryInsertedAnywhere: the walk.
-/
import Derived.Test.Qxb6614512aTools
import Derived.Test.Qxb6614512aMath6
namespace Go.Proofs.Qxb6614512a
open Go.Shelf Go.RowKit Go.Lib Go.Sort

/-- A list of strings with one more put in at c. -/
def ins (c : Nat) (s : Nat → ByteArray) (x : ByteArray) (i : Nat) : ByteArray := if i < c then s i else if i = c then x else s (i - 1)
theorem ins_lo {c i : Nat} (s : Nat → ByteArray) (x : ByteArray) (h : i < c) : ins c s x i = s i := if_pos h
theorem ins_at (c : Nat) (s : Nat → ByteArray) (x : ByteArray) : ins c s x c = x := by
  unfold ins
  rw [if_neg (by omega), if_pos rfl]
theorem ins_hi {c i : Nat} (s : Nat → ByteArray) (x : ByteArray) (h : c ≤ i) : ins c s x (i + 1) = s i := by
  unfold ins
  rw [if_neg (by omega), if_neg (by omega), Nat.add_sub_cancel]
theorem ins_up (c t : Nat) (s : Nat → ByteArray) (x : ByteArray) : ins c s x (M.up c t) = s t := by
  unfold M.up
  split
  · exact ins_lo s x ‹_›
  · exact ins_hi s x (by omega)

/-- 'ahead of the new one', as the law's own text asks it. -/
theorem tl_ins (c k : Nat) (s : Nat → ByteArray) (x : ByteArray) : M.tl (klOf (ins c s x)) (M.up c k) c = (ltStr (s k).data.toList x.data.toList || (decide (k < c) && (s k).toList == x.toList)) := by
  unfold M.tl klOf
  rw [ins_up, ins_at, M.up_lt_c, Lib.toList_data, Lib.toList_data]
  cases h : ltStr (s k).data.toList x.data.toList with
  | true => simp
  | false =>
    rw [Bool.false_or, Bool.false_or, Bool.and_comm]
    congr 1
    unfold ltStr at h ⊢
    rw [decide_eq_false_iff_not, List.not_lt] at h
    rw [Bool.eq_iff_iff, Bool.not_eq_true', decide_eq_false_iff_not, List.not_lt, beq_iff_eq]
    exact ⟨fun h2 => List.le_antisymm h2 h, fun h2 => by rw [h2]; exact List.le_refl _⟩

theorem ins1_of (n c N : Nat) (hN : N = n + 1) (hc : c ≤ n) (s : Nat → ByteArray) (x : ByteArray) (dB dW : Array Nat) (zB : dB.size = n) (zW : dW.size = N) (tB : ∀ i, i < n → dB[i]! < n)
    (pB : PermIn 0 n (Array.range n) dB) (pW : PermIn 0 N (Array.range N) dW) (oB : SortedIn (M.tl (klOf s)) 0 n dB) (oW : SortedIn (M.tl (klOf (ins c s x))) 0 N dW) :
    M.Ins1 n c (klOf s) (klOf (ins c s x)) dB dW := by
  subst hN
  exact ⟨hc, zB, zW, tB, pB, pW, oB, oW, kl_swo _, fun u v _ _ => by unfold klOf; rw [ins_up, ins_up]⟩

set_option maxHeartbeats 8000000 in
set_option maxRecDepth 100000 in
theorem insert_law (pA : Option Addr) (nA cA : Nat) (sA : Nat → ByteArray) (pB : Option Addr) (nB cB : Nat) (sB : Nat → ByteArray) (at_ : Int) (xe xp : ByteArray) (w : World) (hAA : Hid (Arg pA nA cA sA w.heap.size w)) (hnA : nA ≤ 9223372036854775807) (hzA : Hid (∀ i, i < nA → (sA i).size ≤ 9223372036854775807)) (hAB : Hid (Arg pB nB cB sB w.heap.size w)) (hnB : nB ≤ 9223372036854775807) (hzB : Hid (∀ i, i < nB → (sB i).size ≤ 9223372036854775807)) (hxe : xe.size ≤ 9223372036854775807) (hxp : xp.size ≤ 9223372036854775807) (hat0 : -9223372036854775808 ≤ at_) (hat1 : at_ ≤ 9223372036854775807) :
    Calls Try.prog 4 #[.slice pA nA cA, .slice pB nB cB, .int .i64 at_, .string xe, .string xp] w (LawPost w) := by
  have mixed : Try.prog.follows .mixedOrders = true := by kernel_rfl
  go_enter Try.func4, Try.ntmps4
  go_wp2_with fail
  refine (bytes2_any pA nA cA sA pB nB cB sB at_ xe xp w.heap.size w hAA.out.str hnA hzA hAB.out.str hnB hzB hxe hxp).mono ?_
  rintro e w1 ⟨b, he, hw, hsm⟩
  rw [he, hw]
  clear he hw
  cases b
  case false => go_wp2; go_ret; exact lawPost_early rfl
  case true =>
  obtain ⟨smA, smB, smE, smP⟩ := hsm rfl
  have ZA : Hid (∀ i, i < nA → (sA i).size ≤ 1048576) := smA.2
  have ZB : Hid (∀ i, i < nB → (sB i).size ≤ 1048576) := smB.2
  have mA : nA ≤ 1048576 := smA.1
  have mB : nB ≤ 1048576 := smB.1
  have smEz : ¬ (1048576 : Int) < (xe.size : Int) := by omega
  have smPz : ¬ (1048576 : Int) < (xp.size : Int) := by omega
  clear hsm smA smB hzA hzB hnA hnB hxe hxp
  by_cases lA : nA ≤ 65536
  case neg =>
    have lAz : (65536 : Int) < (nA : Int) := by omega
    go_wp2; go_ret; exact lawPost_early rfl
  case pos =>
  have lAz : ¬ (65536 : Int) < (nA : Int) := by omega
  by_cases lB : nB ≤ 65536
  case neg =>
    have lBz : (65536 : Int) < (nB : Int) := by omega
    go_wp2; go_ret; exact lawPost_early rfl
  case pos =>
  have lBz : ¬ (65536 : Int) < (nB : Int) := by omega
  go_wp2_with fail
  refine (spend_any pA nA cA w.heap.size sA 1048576 w hAA.out.str ZA.out (by omega) (by omega) mA).mono ?_
  rintro e w2 ⟨rA, he, hw, hrA⟩
  rw [he, hw]
  clear he hw
  by_cases gA : rA < 0
  case pos => go_wp2; go_ret; exact lawPost_early rfl
  case neg =>
  go_wp2_with fail
  refine (spend_any pB nB cB w.heap.size sB rA w hAB.out.str ZB.out (by omega) (by omega) mB).mono ?_
  rintro e w2 ⟨rB, he, hw, hrB⟩
  rw [he, hw]
  clear he hw
  by_cases gB : rB < 0
  case pos => go_wp2; go_ret; exact lawPost_early rfl
  case neg =>
  by_cases ge : rB < (xe.size : Int)
  case pos => go_wp2; go_ret; exact lawPost_early rfl
  case neg =>
  by_cases gp : rB - (xe.size : Int) < (xp.size : Int)
  case pos => go_wp2; go_ret; exact lawPost_early rfl
  case neg =>
  by_cases qA : nA = nB
  case neg =>
    have qAz : ((nA : Int) != (nB : Int)) = true := by rw [bne_iff_ne]; omega
    go_wp2; go_ret; exact lawPost_early rfl
  case pos =>
  subst qA
  by_cases qn : at_ < 0
  case pos => go_wp2; go_ret; exact lawPost_early rfl
  case neg =>
  by_cases qh : (nA : Int) < at_
  case pos => go_wp2; go_ret; exact lawPost_early rfl
  case neg =>
  obtain ⟨c, rfl⟩ : ∃ c : Nat, at_ = (c : Int) := ⟨at_.toNat, by omega⟩
  have hcn : c ≤ nA := by omega
  go_wp2_with fail
  refine (clone_any pA nA cA sA w hAA.out mA).mono ?_
  rintro e u1 ⟨qA, kA, rfl, strA, b1⟩
  clear w1 w2 lA lB mB gA gB hrA hrB ZA ZB lBz ge gp qn qh smEz smPz smE smP hat0 hat1
  go_wp2_with fail
  refine (clone_any pB nA cB sB u1 (hAB.out.next b1) mA).mono ?_
  rintro e u2 ⟨qB, kB, rfl, strB, b2⟩
  have strA := strA.next b2
  have bw : Below w.heap.size w u2 := b1.trans (b2.mono b1.size)
  clear b1 b2 hAA hAB
  obtain ⟨N, hN⟩ : ∃ N : Nat, N = nA + 1 := ⟨_, rfl⟩
  have eN : (nA : Int) + 1 = N := by omega
  have HN : Hid (N = nA + 1) := hN
  have mN : N ≤ 131072 := by omega
  have hcN : c < N := by omega
  have hcNz : (c : Int) < (N : Int) := by omega
  clear hN
  have hmk := run_make_row' (P := Try.prog) 22 9 (.string ByteArray.empty) 16 Try.underlying22 Try.info9 rfl .i64 .i64 N (by omega) (by omega)
  obtain ⟨J, hJ⟩ : ∃ J, u2.heap.size = J := ⟨_, rfl⟩
  rw [hJ] at strA strB
  go_wp2
  go_loopg [15] c (fun kx s wr => ∃ k : Nat, s = .int .i64 k ∧ k ≤ c ∧ c - k ≤ kx ∧ wr.rowIs J 9 N (fill (ins c sA xe) k) ∧ wr.rowIs (J + 1) 9 N (fill (ins c sB xp) k) ∧ Hid (wr.heap.size = J + 1 + 1) ∧ Below J u2 wr)
  case atStart =>
    have r0 := World.rowIs_made u2 (.string ByteArray.empty) N 9
    have r1 := World.rowIs_made (u2.alloc (.cells (madeCells #[.string ByteArray.empty] N) 9)) (.string ByteArray.empty) N 9
    rw [World.size_alloc, hJ] at r1
    rw [hJ] at r0
    exact ⟨0, rfl, Nat.zero_le _, Nat.le_refl _, (r0.alloc _).congr (fun i _ => (fill_zero _ i).symm), r1.congr (fun i _ => (fill_zero _ i).symm), (by show _ = _; rw [World.size_alloc, World.size_alloc, hJ]), ((Below.refl _ _).alloc (by omega) _).alloc (by rw [World.size_alloc]; omega) _⟩
  case round =>
  clear hmk
  obtain ⟨k, rfl, hk, hkx, hr1, hr2, HSz, hbl⟩ := hrel
  by_cases hlt : k < c
  case pos =>
    have hltz : (k : Int) < (c : Int) := by omega
    have hkN : k < N := by omega
    have hkNz : (k : Int) < (N : Int) := by omega
    have hkA : (k : Int) < (nA : Int) := by omega
    obtain ⟨b, off, rfl, hb, hc⟩ := strA.resolve_left (by omega)
    obtain ⟨b2, off2, rfl, hb2, hc2⟩ := strB.resolve_left (by omega)
    have c0 : wr.cell? ⟨b, off + k, none⟩ = some (.string (sA k)) := (hbl.cell (p := ⟨b, off + k, none⟩) hb).trans (hc k (by omega))
    have c1 : (wr.setCell ⟨J, k, none⟩ (.string (sA k))).cell? ⟨b2, off2 + k, none⟩ = some (.string (sB k)) := ((hbl.setCell (p := ⟨J, k, none⟩) (Nat.le_refl _) _).cell (p := ⟨b2, off2 + k, none⟩) hb2).trans (hc2 k (by omega))
    have e1 : wr.cell? ⟨J, k, none⟩ = some (fill (ins c sA xe) k k) := hr1.cell hkN
    have f1 : wr.frozen? ⟨J, k, none⟩ = false := hr1.frozen k
    have q2 := hr2.setOther (a := ⟨J, k, none⟩) (by show J + 1 ≠ J; omega) (.string (sA k))
    have e2 : (wr.setCell ⟨J, k, none⟩ (.string (sA k))).cell? ⟨J + 1, k, none⟩ = some (fill (ins c sB xp) k k) := q2.cell hkN
    have f2 : (wr.setCell ⟨J, k, none⟩ (.string (sA k))).frozen? ⟨J + 1, k, none⟩ = false := q2.frozen k
    have R1 := ((hr1.set k (.string (sA k))).setOther (a := ⟨J + 1, k, none⟩) (by show J ≠ J + 1; omega) (.string (sB k))).congr (g := fill (ins c sA xe) (k + 1)) (fun i _ => by have := fill_step (ins c sA xe) k i; rw [ins_lo sA xe hlt] at this; exact this)
    have R2 := (q2.set k (.string (sB k))).congr (g := fill (ins c sB xp) (k + 1)) (fun i _ => by have := fill_step (ins c sB xp) k i; rw [ins_lo sB xp hlt] at this; exact this)
    have HS2 : Hid (((wr.setCell ⟨J, k, none⟩ (.string (sA k))).setCell ⟨J + 1, k, none⟩ (.string (sB k))).heap.size = J + 1 + 1) := by show _ = _; simp; exact HSz.out
    have hbl2 := (hbl.setCell (p := ⟨J, k, none⟩) (Nat.le_refl _) (.string (sA k))).setCell (p := ⟨J + 1, k, none⟩) (by show J ≤ J + 1; omega) (.string (sB k))
    generalize fill (ins c sA xe) k k = v1 at e1
    generalize fill (ins c sB xp) k k = v2 at e2
    clear hc hc2 q2 hr1 hr2 hbl
    go_wp2
    go_roundg (c - (k + 1))
    case measure => omega
    case rel => exact ⟨k + 1, by go_num, by omega, Nat.le_refl _, R1, R2, HS2, hbl2⟩
  case neg =>
  have hltz : ¬ (k : Int) < (c : Int) := by omega
  have hkc : Hid (k = c) := by show _ = _; omega
  have hr1 : wr.rowIs J 9 N (fill (ins c sA xe) c) := by have h := hr1; rw [hkc.out] at h; exact h
  have hr2 : wr.rowIs (J + 1) 9 N (fill (ins c sB xp) c) := by have h := hr2; rw [hkc.out] at h; exact h
  have e1 : wr.cell? ⟨J, c, none⟩ = some (fill (ins c sA xe) c c) := hr1.cell hcN
  have f1 : wr.frozen? ⟨J, c, none⟩ = false := hr1.frozen c
  have q2 := hr2.setOther (a := ⟨J, c, none⟩) (by show J + 1 ≠ J; omega) (.string xe)
  have e2 : (wr.setCell ⟨J, c, none⟩ (.string xe)).cell? ⟨J + 1, c, none⟩ = some (fill (ins c sB xp) c c) := q2.cell hcN
  have f2 : (wr.setCell ⟨J, c, none⟩ (.string xe)).frozen? ⟨J + 1, c, none⟩ = false := q2.frozen c
  have R1 := ((hr1.set c (.string xe)).setOther (a := ⟨J + 1, c, none⟩) (by show J ≠ J + 1; omega) (.string xp)).congr (g := fill (ins c sA xe) (c + 1)) (fun i _ => by have := fill_step (ins c sA xe) c i; rw [ins_at] at this; exact this)
  have R2 := (q2.set c (.string xp)).congr (g := fill (ins c sB xp) (c + 1)) (fun i _ => by have := fill_step (ins c sB xp) c i; rw [ins_at] at this; exact this)
  have HS2 : Hid (((wr.setCell ⟨J, c, none⟩ (.string xe)).setCell ⟨J + 1, c, none⟩ (.string xp)).heap.size = J + 1 + 1) := by show _ = _; simp; exact HSz.out
  have hbl2 := (hbl.setCell (p := ⟨J, c, none⟩) (Nat.le_refl _) (.string xe)).setCell (p := ⟨J + 1, c, none⟩) (by show J ≤ J + 1; omega) (.string xp)
  generalize fill (ins c sA xe) c c = v1 at e1
  generalize fill (ins c sB xp) c c = v2 at e2
  clear q2 hr1 hr2 hbl HSz
  go_wp2_with fail
  go_loopg [16] nA (fun kx s wr => ∃ k : Nat, s = .int .i64 k ∧ c ≤ k ∧ k ≤ nA ∧ nA - k ≤ kx ∧ wr.rowIs J 9 N (fill (ins c sA xe) (k + 1)) ∧ wr.rowIs (J + 1) 9 N (fill (ins c sB xp) (k + 1)) ∧ Hid (wr.heap.size = J + 1 + 1) ∧ Below J u2 wr)
  case atStart => exact ⟨c, rfl, Nat.le_refl _, hcn, by omega, R1, R2, HS2, hbl2⟩
  case round =>
  clear R1 R2 HS2 hbl2 e1 e2 f1 f2 hk hkx hltz hlt hkc
  obtain ⟨k2, rfl, hck2, hk2, hkx2, hr1, hr2, HSz, hbl⟩ := hrel
  by_cases hlt : k2 < nA
  case pos =>
    have hltz : (k2 : Int) < (nA : Int) := by omega
    have hmN : k2 + 1 < N := by have := HN.out; omega
    have hmNz : (k2 : Int) + 1 < (N : Int) := by omega
    obtain ⟨b, off, rfl, hb, hc⟩ := strA.resolve_left (by omega)
    obtain ⟨b2, off2, rfl, hb2, hc2⟩ := strB.resolve_left (by omega)
    have c0 : wr.cell? ⟨b, off + k2, none⟩ = some (.string (sA k2)) := (hbl.cell (p := ⟨b, off + k2, none⟩) hb).trans (hc k2 hlt)
    have c1 : (wr.setCell ⟨J, k2 + 1, none⟩ (.string (sA k2))).cell? ⟨b2, off2 + k2, none⟩ = some (.string (sB k2)) := ((hbl.setCell (p := ⟨J, k2 + 1, none⟩) (Nat.le_refl _) _).cell (p := ⟨b2, off2 + k2, none⟩) hb2).trans (hc2 k2 hlt)
    have e1 : wr.cell? ⟨J, k2 + 1, none⟩ = some (fill (ins c sA xe) (k2 + 1) (k2 + 1)) := hr1.cell hmN
    have f1 : wr.frozen? ⟨J, k2 + 1, none⟩ = false := hr1.frozen (k2 + 1)
    have q2 := hr2.setOther (a := ⟨J, k2 + 1, none⟩) (by show J + 1 ≠ J; omega) (.string (sA k2))
    have e2 : (wr.setCell ⟨J, k2 + 1, none⟩ (.string (sA k2))).cell? ⟨J + 1, k2 + 1, none⟩ = some (fill (ins c sB xp) (k2 + 1) (k2 + 1)) := q2.cell hmN
    have f2 : (wr.setCell ⟨J, k2 + 1, none⟩ (.string (sA k2))).frozen? ⟨J + 1, k2 + 1, none⟩ = false := q2.frozen (k2 + 1)
    have R1 := ((hr1.set (k2 + 1) (.string (sA k2))).setOther (a := ⟨J + 1, k2 + 1, none⟩) (by show J ≠ J + 1; omega) (.string (sB k2))).congr (g := fill (ins c sA xe) (k2 + 1 + 1)) (fun i _ => by have := fill_step (ins c sA xe) (k2 + 1) i; rw [ins_hi sA xe hck2] at this; exact this)
    have R2 := (q2.set (k2 + 1) (.string (sB k2))).congr (g := fill (ins c sB xp) (k2 + 1 + 1)) (fun i _ => by have := fill_step (ins c sB xp) (k2 + 1) i; rw [ins_hi sB xp hck2] at this; exact this)
    have HS2 : Hid (((wr.setCell ⟨J, k2 + 1, none⟩ (.string (sA k2))).setCell ⟨J + 1, k2 + 1, none⟩ (.string (sB k2))).heap.size = J + 1 + 1) := by show _ = _; simp; exact HSz.out
    have hbl2 := (hbl.setCell (p := ⟨J, k2 + 1, none⟩) (Nat.le_refl _) (.string (sA k2))).setCell (p := ⟨J + 1, k2 + 1, none⟩) (by show J ≤ J + 1; omega) (.string (sB k2))
    generalize fill (ins c sA xe) (k2 + 1) (k2 + 1) = v1 at e1
    generalize fill (ins c sB xp) (k2 + 1) (k2 + 1) = v2 at e2
    have tk1 : ((k2 : Int) + 1).toNat = k2 + 1 := by omega
    clear hc hc2 q2 hr1 hr2 hbl
    go_wp2
    go_roundg (nA - (k2 + 1))
    case measure => omega
    case rel => exact ⟨k2 + 1, by go_num, by omega, by omega, Nat.le_refl _, R1, R2, HS2, hbl2⟩
  case neg =>
  have hltz : ¬ (k2 : Int) < (nA : Int) := by omega
  have hkn : Hid (k2 + 1 = N) := by show _ = _; have := HN.out; omega
  have rJ1 : wr.rowIs J 9 N (fun i => .string (ins c sA xe i)) := hr1.congr (fun i hi => by rw [hkn.out]; exact fill_full _ N i hi)
  have rJ2 : wr.rowIs (J + 1) 9 N (fun i => .string (ins c sB xp i)) := hr2.congr (fun i hi => by rw [hkn.out]; exact fill_full _ N i hi)
  clear hr1 hr2 hkn
  have strA := (strA.below hbl).mono (by have := HSz.out; omega : J ≤ wr.heap.size)
  have strB := (strB.below hbl).mono (by have := HSz.out; omega : J ≤ wr.heap.size)
  have bw2 : Below w.heap.size w wr := bw.trans (hbl.mono (by have := bw.size; omega))
  have strE := Str.of_row rJ1
  have strF := Str.of_row rJ2
  clear rJ1 rJ2 bw hbl hJ HSz
  go_wp2_with fail
  refine (priceList_any qA qB nA kA kB sA sB wr strA strB mA).mono ?_
  rintro e v1 ⟨rfl, rE, rP, rK, hs1, b1⟩
  have T1 : Tri wr.heap.size nA sA sB v1 := ⟨rE, rP, rK⟩
  have strA1 : Str qA nA sA wr.heap.size v1 := strA.below b1
  have strE := strE.next b1
  have strF := strF.next b1
  have HB1 : Hid (v1.heap.size = wr.heap.size + 1 + 1 + 1) := hs1
  clear rE rP rK hs1 strB
  go_wp2_with fail
  refine (priceList_any (some ⟨J, 0, none⟩) (some ⟨J + 1, 0, none⟩) N N N (ins c sA xe) (ins c sB xp) v1 strE strF (by omega)).mono ?_
  rintro e v2 ⟨rfl, rE, rP, rK, hs2, b2⟩
  have T2 : Tri v1.heap.size N (ins c sA xe) (ins c sB xp) v2 := ⟨rE, rP, rK⟩
  have T1 := T1.below b2
  have HB2 : Hid (v2.heap.size = v1.heap.size + 1 + 1 + 1) := hs2
  clear rE rP rK hs2 strE strF
  obtain ⟨P1, hP1⟩ : ∃ P1, wr.heap.size = P1 := ⟨_, rfl⟩
  obtain ⟨P2, hP2⟩ : ∃ P2, v1.heap.size = P2 := ⟨_, rfl⟩
  have bw3 : Below w.heap.size w v2 := (bw2.trans (b1.mono bw2.size)).trans (b2.mono (Nat.le_trans bw2.size b1.size))
  have W0 : Hid (w.heap.size ≤ P1) := by show _ ≤ _; rw [← hP1]; exact bw2.size
  clear bw2 b1
  have strQ : Str qA nA sA P1 v2 := by rw [← hP1]; exact strA1.below (b2.mono (by have := HB1.out; omega))
  clear strA1 strA b2
  rw [hP1] at T1 HB1
  rw [hP2] at T2 HB1 HB2
  rw [hP1, hP2]
  go_wp2_with fail
  refine (tri_sort P1 nA sA sB v2 T1 mA).mono ?_
  rintro e y1 ⟨rfl, K1, dA, zA, pmA, oA, V1⟩
  have T2 := T2.kept K1 (by have := HB1.out; omega) (by have := HB1.out; omega) (by have := HB1.out; omega)
  have hb1 : Below P1 v2 y1 := K1.below (by omega) (by have := HB1.out; have := HB2.out; omega)
  go_wp2_with fail
  refine (tri_sort P2 N (ins c sA xe) (ins c sB xp) y1 T2 (by omega)).mono ?_
  rintro e y2 ⟨rfl, K2, dW, zW, pmW, oW, V2⟩
  have V1 := V1.kept K2 (by have := HB1.out; omega) (by have := HB1.out; omega) (by have := HB1.out; omega)
  have hb2 : Below P1 y1 y2 := K2.below (by have := HB1.out; omega) (by have := HB1.out; have := HB2.out; have := K1.size; omega)
  have strQ := (strQ.below hb1).below hb2
  have bw4 : Below w.heap.size w y2 := (bw3.trans (hb1.mono W0.out)).trans (hb2.mono W0.out)
  have HI : Hid (M.Ins1 nA c (klOf sA) (klOf (ins c sA xe)) dA dW) := ins1_of nA c N HN.out hcn sA xe dA dW zA zW V1.t pmA pmW oA oW
  have HO : Hid (SortedIn (M.tl (klOf (ins c sA xe))) 0 N dW) := oW
  clear K1 K2 T1 T2 bw3 zA zW pmA pmW oA oW HB1 HB2 W0 hb1 hb2
  go_wp2_with fail
  go_loopg [19, 20] nA (fun kx s1 s2 wr => ∃ (k m : Nat), s1 = .int .i64 m ∧ s2 = .int .i64 k ∧ k ≤ nA ∧ nA - k ≤ kx ∧ m ≤ k ∧ Hid (M.pos (klOf (ins c sA xe)) k c = m) ∧ Hid (y2 = wr))
  case atStart => exact ⟨0, 0, rfl, rfl, Nat.zero_le _, Nat.le_refl _, Nat.le_refl _, rfl, rfl⟩
  case round =>
  obtain ⟨k, m, rfl, rfl, hk, hkx, hmk, HPo, HY⟩ := hrel
  have HSq : Hid (Str qA nA sA P1 wr) := by rw [← HY.out]; exact strQ
  by_cases hlt : k < nA
  case pos =>
    have hltz : (k : Int) < (nA : Int) := by omega
    obtain ⟨b, off, rfl, hb, hc⟩ := HSq.out.resolve_left (by omega)
    have c0 := hc k hlt
    have HT : Hid (M.pos (klOf (ins c sA xe)) (k + 1) c = m + if (ltStr (sA k).data.toList xe.data.toList || (decide (k < c) && (sA k).toList == xe.toList)) then 1 else 0) := by
      show _ = _
      rw [M.pos_step, HPo.out, tl_ins]
    clear hc V1 V2 bw4 strQ HSq HI HO
    cases hl : ltStr (sA k).data.toList xe.data.toList
    case true =>
      have fb : Op.bytesLess (sA k).toList xe.toList = true := by rw [bl_eq]; exact hl
      have HQ : Hid (M.pos (klOf (ins c sA xe)) (k + 1) c = m + 1) := by show _ = _; rw [HT.out, hl]; simp
      clear hl HT
      go_wp2
      go_roundg (nA - (k + 1))
      case measure => omega
      case rel => exact ⟨k + 1, m + 1, by go_num, by go_num, by omega, Nat.le_refl _, by omega, HQ, HY⟩
    case false =>
    have fb : Op.bytesLess (sA k).toList xe.toList = false := by rw [bl_eq]; exact hl
    by_cases hkc : k < c
    case neg =>
      have hkcz : ¬ (k : Int) < (c : Int) := by omega
      have HQ : Hid (M.pos (klOf (ins c sA xe)) (k + 1) c = m) := by show _ = _; rw [HT.out, hl, decide_eq_false hkc]; simp
      clear hl HT
      go_wp2
      go_roundg (nA - (k + 1))
      case measure => omega
      case rel => exact ⟨k + 1, m, rfl, by go_num, by omega, Nat.le_refl _, by omega, HQ, HY⟩
    case pos =>
    have hkcz : (k : Int) < (c : Int) := by omega
    cases he : (sA k).toList == xe.toList
    case true =>
      have HQ : Hid (M.pos (klOf (ins c sA xe)) (k + 1) c = m + 1) := by show _ = _; rw [HT.out, hl, he, decide_eq_true hkc]; simp
      clear hl HT
      go_wp2
      go_roundg (nA - (k + 1))
      case measure => omega
      case rel => exact ⟨k + 1, m + 1, by go_num, by go_num, by omega, Nat.le_refl _, by omega, HQ, HY⟩
    case false =>
      have HQ : Hid (M.pos (klOf (ins c sA xe)) (k + 1) c = m) := by show _ = _; rw [HT.out, hl, he, decide_eq_true hkc]; simp
      clear hl HT
      go_wp2
      go_roundg (nA - (k + 1))
      case measure => omega
      case rel => exact ⟨k + 1, m, rfl, by go_num, by omega, Nat.le_refl _, by omega, HQ, HY⟩
  case neg =>
  have hltz : ¬ (k : Int) < (nA : Int) := by omega
  have HP : Hid (M.pos (klOf (ins c sA xe)) nA c = m) := by show _ = _; have h : k = nA := by omega
                                                            rw [← h]; exact HPo.out
  have V1 : TriV P1 nA sA sB dA wr := by rw [← HY.out]; exact V1
  have V2 : TriV P2 N (ins c sA xe) (ins c sB xp) dW wr := by rw [← HY.out]; exact V2
  have bw4 : Below w.heap.size w wr := by rw [← HY.out]; exact bw4
  have hmn : m ≤ nA := by omega
  clear HPo HY strQ HSq hmk hkx
  go_wp2_with fail
  go_loopg [21] N (fun kx s wr => ∃ (j : Nat), s = .int .i64 j ∧ j ≤ N ∧ N - j ≤ kx ∧ TriV P1 nA sA sB dA wr ∧ TriV P2 N (ins c sA xe) (ins c sB xp) dW wr ∧ Below w.heap.size w wr)
  case atStart => exact ⟨0, rfl, Nat.zero_le _, Nat.le_refl _, V1, V2, bw4⟩
  case round =>
  clear V1 V2 bw4 hltz hlt hk
  obtain ⟨j, rfl, hjN, hkx3, V1, V2, bw⟩ := hrel
  by_cases hjl : j < N
  case neg =>
    have hjlz : ¬ (j : Int) ≤ (nA : Int) := by have := HN.out; omega
    go_wp2
    go_ret
    exact ⟨rfl, bw⟩
  case pos =>
  have hjlz : (j : Int) ≤ (nA : Int) := by have := HN.out; omega
  have hjNz : (j : Int) < (N : Int) := by omega
  by_cases cA : j < m
  · by_cases j0 : j = 0
    · have fA : (j : Int) < (m : Int) := by omega
      obtain ⟨xv, hxv⟩ : ∃ xv, dA[j]! = xv := ⟨_, rfl⟩
      have ez : dW[j]! = M.up c xv := by rw [← hxv]; exact HI.out.before (by rw [HP.out]; exact cA)
      obtain ⟨b1, b2, b3, b4⟩ := V1.at (i := j) (by omega) hxv
      obtain ⟨z, hz⟩ : ∃ z, M.up c xv = z := ⟨_, rfl⟩
      rw [hz] at ez
      obtain ⟨d1, d2, d3, d4⟩ := V2.at (i := j) hjl ez
      rw [show ins c sA xe z = sA xv by rw [← hz]; exact ins_up _ _ _ _] at d3
      rw [show ins c sB xp z = sB xv by rw [← hz]; exact ins_up _ _ _ _] at d4
      have ekey : ins c sA xe dW[j]! = sA xv := by rw [ez, ← hz]; exact ins_up _ _ _ _
      subst j0
      simp only [Nat.zero_mul, Nat.zero_add] at d1 d2 b1 b2
      have hN0 : (0 : Int) < (N : Int) := by omega
      have fA2 : 0 < m := by omega
      have fA3 : (0 : Int) < (m : Int) := by omega
      have fA4 : (0 : Int) < (nA : Int) := by omega
      have fA5 : 0 < nA := by omega
      have HV : Hid (TriV P1 nA sA sB dA wr ∧ TriV P2 N (ins c sA xe) (ins c sB xp) dW wr ∧ Below w.heap.size w wr) := ⟨V1, V2, bw⟩
      clear ekey ez V1 V2 bw hxv hz
      go_wp2_with fail
      go_quiet (fail)
      go_wp2
      go_roundg (N - (0 + 1))
      case measure => omega
      case rel => exact ⟨0 + 1, by first | rfl | go_num | simp, by omega, Nat.le_refl _, HV.out.1.drewN _, HV.out.2.1.drewN _, below_drewN HV.out.2.2 _⟩
    · have fA : (j : Int) < (m : Int) := by omega
      obtain ⟨xv, hxv⟩ : ∃ xv, dA[j]! = xv := ⟨_, rfl⟩
      have ez : dW[j]! = M.up c xv := by rw [← hxv]; exact HI.out.before (by rw [HP.out]; exact cA)
      obtain ⟨b1, b2, b3, b4⟩ := V1.at (i := j) (by omega) hxv
      obtain ⟨z, hz⟩ : ∃ z, M.up c xv = z := ⟨_, rfl⟩
      rw [hz] at ez
      obtain ⟨d1, d2, d3, d4⟩ := V2.at (i := j) hjl ez
      rw [show ins c sA xe z = sA xv by rw [← hz]; exact ins_up _ _ _ _] at d3
      rw [show ins c sB xp z = sB xv by rw [← hz]; exact ins_up _ _ _ _] at d4
      have ekey : ins c sA xe dW[j]! = sA xv := by rw [ez, ← hz]; exact ins_up _ _ _ _
      obtain ⟨jp, rfl⟩ : ∃ jp, j = jp + 1 := ⟨j - 1, by omega⟩
      have fk : (0 : Int) < (jp : Int) + 1 := by omega
      obtain ⟨zp, hzp⟩ : ∃ zp, dW[jp]! = zp := ⟨_, rfl⟩
      obtain ⟨g1, g2, g3, g4⟩ := V2.at (i := jp) (by omega) hzp
      have fl : Op.bytesLess (sA xv).toList (ins c sA xe zp).toList = false := by
        have h := M.key_up HO.out (i := jp) hjl
        unfold klOf at h
        rw [ekey, hzp] at h
        rw [bl_eq]; exact h
      generalize ins c sA xe zp = sz at g3 fl
      have rjp : IntKind.i64.wrap (jp : Int) = (jp : Int) := by rw [IntKind.wrap_i64]; omega
      have kz1 : (jp : Int) < (N : Int) := by omega
      have kz2 : (jp : Int) + 1 < (N : Int) := by omega
      have kz3 : (0 : Int) ≤ (jp : Int) + 1 := by omega
      have kz4 : ((jp : Int) + 1).toNat = jp + 1 := by omega
      have kz5 : (jp : Int) + 1 ≤ (nA : Int) := by omega
      have kz6 : (jp : Int) + 1 < (nA : Int) := by omega
      have kz7 : (jp : Int) + 1 < (m : Int) := by omega
      have HV : Hid (TriV P1 nA sA sB dA wr ∧ TriV P2 N (ins c sA xe) (ins c sB xp) dW wr ∧ Below w.heap.size w wr) := ⟨V1, V2, bw⟩
      clear ekey ez V1 V2 bw hxv hz hzp
      go_wp2_with fail
      go_quiet (fail)
      go_wp2
      go_roundg (N - (jp + 1 + 1))
      case measure => omega
      case rel => exact ⟨jp + 1 + 1, by first | rfl | go_num | simp, by omega, Nat.le_refl _, HV.out.1.drewN _, HV.out.2.1.drewN _, below_drewN HV.out.2.2 _⟩
  by_cases cB : j = m
  · by_cases j0 : j = 0
    · subst cB
      have ez : dW[j]! = c := by have h := HI.out.at; rw [HP.out] at h; exact h
      obtain ⟨d1, d2, d3, d4⟩ := V2.at (i := j) hjl ez
      rw [ins_at] at d3 d4
      have ekey : ins c sA xe dW[j]! = xe := by rw [ez]; exact ins_at _ _ _
      subst j0
      simp only [Nat.zero_mul, Nat.zero_add] at d1 d2
      have hN0 : (0 : Int) < (N : Int) := by omega
      have HV : Hid (TriV P1 nA sA sB dA wr ∧ TriV P2 N (ins c sA xe) (ins c sB xp) dW wr ∧ Below w.heap.size w wr) := ⟨V1, V2, bw⟩
      clear ekey ez V1 V2 bw
      go_wp2_with fail
      go_quiet (fail)
      go_wp2
      go_roundg (N - (0 + 1))
      case measure => omega
      case rel => exact ⟨0 + 1, by first | rfl | go_num | simp, by omega, Nat.le_refl _, HV.out.1.drewN _, HV.out.2.1.drewN _, below_drewN HV.out.2.2 _⟩
    · subst cB
      have ez : dW[j]! = c := by have h := HI.out.at; rw [HP.out] at h; exact h
      obtain ⟨d1, d2, d3, d4⟩ := V2.at (i := j) hjl ez
      rw [ins_at] at d3 d4
      have ekey : ins c sA xe dW[j]! = xe := by rw [ez]; exact ins_at _ _ _
      obtain ⟨jp, rfl⟩ : ∃ jp, j = jp + 1 := ⟨j - 1, by omega⟩
      have fk : (0 : Int) < (jp : Int) + 1 := by omega
      obtain ⟨zp, hzp⟩ : ∃ zp, dW[jp]! = zp := ⟨_, rfl⟩
      obtain ⟨g1, g2, g3, g4⟩ := V2.at (i := jp) (by omega) hzp
      have fl : Op.bytesLess xe.toList (ins c sA xe zp).toList = false := by
        have h := M.key_up HO.out (i := jp) hjl
        unfold klOf at h
        rw [ekey, hzp] at h
        rw [bl_eq]; exact h
      generalize ins c sA xe zp = sz at g3 fl
      have rjp : IntKind.i64.wrap (jp : Int) = (jp : Int) := by rw [IntKind.wrap_i64]; omega
      have kz1 : (jp : Int) < (N : Int) := by omega
      have kz2 : (jp : Int) + 1 < (N : Int) := by omega
      have kz3 : (0 : Int) ≤ (jp : Int) + 1 := by omega
      have kz4 : ((jp : Int) + 1).toNat = jp + 1 := by omega
      have kz5 : (jp : Int) + 1 ≤ (nA : Int) := by omega
      have HV : Hid (TriV P1 nA sA sB dA wr ∧ TriV P2 N (ins c sA xe) (ins c sB xp) dW wr ∧ Below w.heap.size w wr) := ⟨V1, V2, bw⟩
      clear ekey ez V1 V2 bw hzp
      go_wp2_with fail
      go_quiet (fail)
      go_wp2
      go_roundg (N - (jp + 1 + 1))
      case measure => omega
      case rel => exact ⟨jp + 1 + 1, by first | rfl | go_num | simp, by omega, Nat.le_refl _, HV.out.1.drewN _, HV.out.2.1.drewN _, below_drewN HV.out.2.2 _⟩
  · obtain ⟨jp, rfl⟩ : ∃ jp, j = jp + 1 := ⟨j - 1, by omega⟩
    have fA : ¬ (jp : Int) + 1 < (m : Int) := by omega
    have fB : (((jp : Int) + 1) == (m : Int)) = false := by rw [beq_eq_false_iff_ne]; omega
    obtain ⟨xv, hxv⟩ : ∃ xv, dA[jp]! = xv := ⟨_, rfl⟩
    have ez : dW[jp + 1]! = M.up c xv := by rw [← hxv]; exact HI.out.behind (by rw [HP.out]; omega) (by have := HN.out; omega)
    obtain ⟨b1, b2, b3, b4⟩ := V1.at (i := jp) (by have := HN.out; omega) hxv
    obtain ⟨z, hz⟩ : ∃ z, M.up c xv = z := ⟨_, rfl⟩
    rw [hz] at ez
    obtain ⟨d1, d2, d3, d4⟩ := V2.at (i := jp + 1) hjl ez
    rw [show ins c sA xe z = sA xv by rw [← hz]; exact ins_up _ _ _ _] at d3
    rw [show ins c sB xp z = sB xv by rw [← hz]; exact ins_up _ _ _ _] at d4
    have ekey : ins c sA xe dW[jp + 1]! = sA xv := by rw [ez, ← hz]; exact ins_up _ _ _ _
    have fk : (0 : Int) < (jp : Int) + 1 := by omega
    obtain ⟨zp, hzp⟩ : ∃ zp, dW[jp]! = zp := ⟨_, rfl⟩
    obtain ⟨g1, g2, g3, g4⟩ := V2.at (i := jp) (by omega) hzp
    have fl : Op.bytesLess (sA xv).toList (ins c sA xe zp).toList = false := by
      have h := M.key_up HO.out (i := jp) hjl
      unfold klOf at h
      rw [ekey, hzp] at h
      rw [bl_eq]; exact h
    generalize ins c sA xe zp = sz at g3 fl
    have rjp : IntKind.i64.wrap (jp : Int) = (jp : Int) := by rw [IntKind.wrap_i64]; omega
    have kz1 : (jp : Int) < (N : Int) := by omega
    have kz2 : (jp : Int) + 1 < (N : Int) := by omega
    have kz3 : (0 : Int) ≤ (jp : Int) + 1 := by omega
    have kz4 : ((jp : Int) + 1).toNat = jp + 1 := by omega
    have kz5 : (jp : Int) + 1 ≤ (nA : Int) := by omega
    have kz6 : (jp : Int) < (nA : Int) := by omega
    have HV : Hid (TriV P1 nA sA sB dA wr ∧ TriV P2 N (ins c sA xe) (ins c sB xp) dW wr ∧ Below w.heap.size w wr) := ⟨V1, V2, bw⟩
    clear ekey ez V1 V2 bw hxv hz hzp
    go_wp2_with fail
    go_quiet (fail)
    go_wp2
    go_roundg (N - (jp + 1 + 1))
    case measure => omega
    case rel => exact ⟨jp + 1 + 1, by first | rfl | go_num | simp, by omega, Nat.le_refl _, HV.out.1.drewN _, HV.out.2.1.drewN _, below_drewN HV.out.2.2 _⟩
end Go.Proofs.Qxb6614512a
