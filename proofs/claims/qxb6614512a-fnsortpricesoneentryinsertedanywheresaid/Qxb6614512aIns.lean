/-
  slices.insertionSortCmpFunc at filePrice: the walk.
-/
import Derived.Test.Qxb6614512aSwap
import Derived.Sort.WalkA
import Derived.Shelf.SlSortCmp.QuietGrown
import Derived.BigQuiet
import Derived.BigRegion
namespace Go.Proofs.Qxb6614512a
open Go.Shelf Go.RowKit Go.Lib Go.Sort

set_option maxHeartbeats 2000000 in
set_option maxRecDepth 100000 in
theorem insertion_any (eb pb blk off N cap a b : Nat) (cf : Nat → Nat → Int) (d : Array Nat) (w0 w : World) (C : CmpOK eb pb blk off N cf w0) (S : Rw eb pb blk off N w0 d w)
    (hab : a ≤ b) (hb : b ≤ N) (hN : N < 4611686018427387904) :
    Calls Try.prog 17 #[.slice (some ⟨blk, off, none⟩) N cap, .int .i64 a, .int .i64 b, .func (.func 13) #[] #[]] w fun e w' => e = .returned (.tuple #[]) ∧ Rw eb pb blk off N w0 (insertionSort (ltOf cf) d a b) w' := by
  have mixed : Try.prog.follows .mixedOrders = true := by kernel_rfl
  have HC : Hid (CmpOK eb pb blk off N cf w0) := C
  clear C
  go_enter Try.func17, Try.ntmps17
  go_wp2
  go_loopg [8] (b - a) (fun g1 vi wr => ∃ (i : Nat) (dk : Array Nat), vi = .int .i64 i ∧ a < i ∧ i ≤ b + 1 ∧ b + 1 - i ≤ g1 + 1 ∧ Hid (insOuter (ltOf cf) a b i dk = insOuter (ltOf cf) a b (a + 1) d) ∧ Rw eb pb blk off N w0 dk wr)
  case atStart => exact ⟨a + 1, d, by go_num, by omega, by omega, by omega, rfl, S⟩
  case round =>
    clear S
    obtain ⟨i, dk, rfl, hai, hib, hg1, HO, S1⟩ := hrel
    by_cases hlt : i < b
    · have hltz : (i : Int) < (b : Int) := by omega
      go_wp2
      go_loopg [9] i (fun g2 vj wr2 => ∃ (j : Nat) (dj : Array Nat), vj = .int .i64 j ∧ a ≤ j ∧ j ≤ i ∧ j ≤ g2 ∧ Hid (insInner (ltOf cf) a j dj = insInner (ltOf cf) a i dk) ∧ Rw eb pb blk off N w0 dj wr2)
      case atStart => exact ⟨i, dk, rfl, by omega, Nat.le_refl _, Nat.le_refl _, rfl, S1⟩
      case round =>
        clear S1
        obtain ⟨j, dj, rfl, haj, hji, hg2, HI, S2⟩ := hrel
        have OUT : Hid ((j ≤ a ∨ ltOf cf dj[j]! dj[j - 1]! = false) → insOuter (ltOf cf) a b (i + 1) dj = insOuter (ltOf cf) a b (a + 1) d) := fun hs => by
          rw [← HO.out, insOuter_go _ _ _ _ _ hlt, ← HI.out, insInner_stop _ _ _ _ hs]
        by_cases hja : a < j
        · have hjaz : (a : Int) < (j : Int) := by omega
          obtain ⟨jp, rfl⟩ : ∃ jp, j = jp + 1 := ⟨j - 1, by omega⟩
          obtain ⟨xj, hxj⟩ : ∃ x, dj[jp + 1]! = x := ⟨_, rfl⟩
          obtain ⟨xp, hxp⟩ : ∃ x, dj[jp]! = x := ⟨_, rfl⟩
          have hwp : IntKind.i64.wrap (jp : Int) = (jp : Int) := by rw [IntKind.wrap_i64]; omega
          have jz : (jp : Int) + 1 < (N : Int) := by omega
          have jz1 : (jp : Int) < (N : Int) := by omega
          have hjaz' : (a : Int) < (jp : Int) + 1 := by omega
          have p0 : (0 : Int) ≤ (jp : Int) + 1 := by omega
          have e0 : ((jp : Int) + 1).toNat = jp + 1 := by omega
          obtain ⟨lj0, lj1⟩ := S2.ld (i := jp + 1) (by omega) hxj
          obtain ⟨lp0, lp1⟩ := S2.ld (i := jp) (by omega) hxp
          have hcg := HC.out.at S2 (i := jp + 1) (j := jp) (by omega) hxj (by omega) hxp
          have HX : Hid (dj[jp + 1]! = xj ∧ dj[jp]! = xp) := ⟨hxj, hxp⟩
          clear hxj hxp
          by_cases hlv : cf xj xp < 0
          · go_wp2_with fail
            go_quiet_grown (first | (go_at_call 13; refine Calls.grown_of (hcg _ _)))
            go_wp2_with fail
            have S3 := S2.grown nq osq
            clear S2 hcg lj0 lj1 lp0 lp1
            generalize grow (wr.drewN nq) osq = w3 at S3 ⊢
            obtain ⟨c0, c1, f0, f1⟩ := S3.cells (i := jp + 1) (by omega) HX.out.1
            obtain ⟨e1, e2, g0, g1⟩ := S3.cells (i := jp) (by omega) HX.out.2
            have S4 := S3.swap (i := jp + 1) (j := jp) (by omega) (by omega) HX.out.1 HX.out.2
            clear S3
            go_big_region_o
            clear c0 c1 f0 f1 e1 e2 g0 g1
            go_wp2
            go_roundg jp
            case measure => omega
            case rel =>
              refine ⟨jp, swp dj (jp + 1) jp, by first | rfl | go_num | (congr 1; omega), by omega, by omega, Nat.le_refl _, ?_, S4⟩
              show _ = _
              have := insInner_go (ltOf cf) a (jp + 1) dj hja (by simp only [Nat.add_sub_cancel]; rw [HX.out.1, HX.out.2]; exact decide_eq_true hlv)
              simp only [Nat.add_sub_cancel] at this
              rw [← HI.out, this]
          · go_wp2_with fail
            go_quiet_grown (first | (go_at_call 13; refine Calls.grown_of (hcg _ _)))
            have S3 := S2.grown nq osq
            clear S2 hcg lj0 lj1 lp0 lp1
            go_wp2
            go_roundg (b - (i + 1))
            case measure => omega
            case rel => exact ⟨i + 1, dj, by go_num, by omega, by omega, by omega, OUT.out (Or.inr (by simp only [Nat.add_sub_cancel]; rw [HX.out.1, HX.out.2]; exact decide_eq_false (by omega))), S3⟩
        · have hjaz : decide ((j : Int) > (a : Int)) = false := decide_eq_false (by omega)
          have hjaz' : ¬ (a : Int) < (j : Int) := by omega
          have S3 := S2.grown 1 #[]
          rw [grow_empty] at S3
          have S4 : Rw eb pb blk off N w0 dj wr.drew := S3
          clear S2 S3
          go_wp2_with fail
          go_big_region_o
          all_goals go_wp2
          go_roundg (b - (i + 1))
          case measure => omega
          case rel => exact ⟨i + 1, dj, by go_num, by omega, by omega, by omega, OUT.out (Or.inl (by omega)), S4⟩
    · have hltz : ¬ (i : Int) < (b : Int) := by omega
      go_wp2
      go_end0
      exact ⟨rfl, by unfold insertionSort; rw [← HO.out, insOuter_stop _ _ _ _ _ hlt]; exact S1⟩

end Go.Proofs.Qxb6614512a
