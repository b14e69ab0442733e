/-
  slices.stableCmpFunc, SortStableFunc at filePrice; sortPrices: the walks.
-/
import Derived.Test.Qxb6614512aSymG
import Derived.Test.Qxb6614512aMath4
namespace Go.Proofs.Qxb6614512a
open Go.Shelf Go.RowKit Go.Lib Go.Sort

/-- What the sort comes to: the row holds the one permutation that ascends by key, then by tag. -/
def SortPost (eb pb blk off N : Nat) (cf : Nat → Nat → Int) (w0 : World) (d : Array Nat) (e : Ending) (w' : World) : Prop :=
  e = .returned (.tuple #[]) ∧ ∃ d' : Array Nat, Rw eb pb blk off N w0 d' w' ∧ PermIn 0 N d d' ∧ SortedIn (M.tl (ltOf cf)) 0 N d'

set_option maxHeartbeats 4000000 in
set_option maxRecDepth 100000 in
theorem stable_any (eb pb blk off N cap : Nat) (cf : Nat → Nat → Int) (hS : SWO (ltOf cf)) (d : Array Nat) (w0 w : World) (C : CmpOK eb pb blk off N cf w0) (S : Rw eb pb blk off N w0 d w)
    (hid : ∀ i, i < N → d[i]! = i) (hN : N < 1099511627776) :
    Calls Try.prog 15 #[.slice (some ⟨blk, off, none⟩) N cap, .int .i64 N, .func (.func 13) #[] #[]] w (SortPost eb pb blk off N cf w0 d) := by
  have HC : Hid (CmpOK eb pb blk off N cf w0) := C
  have HS : Hid (SWO (ltOf cf)) := hS
  have HZ : Hid (d.size = N) := S.size
  have HI : Hid (∀ i, i < N → d[i]! = i) := hid
  clear C hS hid
  go_enter Try.func15, Try.ntmps15
  go_wp2_with fail
  go_loopg [7, 8] N (fun kx s7 s8 wr => ∃ (a : Nat) (dk : Array Nat), s7 = .int .i64 a ∧ s8 = .int .i64 ((a : Int) + 20) ∧ a ≤ N ∧ N - a ≤ kx ∧ Hid (M.Done (M.tl (ltOf cf)) 20 a dk ∧ (∀ i, a ≤ i → i < N → dk[i]! = i) ∧ PermIn 0 N d dk) ∧ Rw eb pb blk off N w0 dk wr)
  case atStart => exact ⟨0, d, rfl, rfl, Nat.zero_le _, by omega, ⟨M.Done.zero _ _, fun i _ h => HI.out i h, permIn_refl _ _ _⟩, S⟩
  case round =>
    clear S
    obtain ⟨a, dk, rfl, rfl, haN, hkx, HD, S1⟩ := hrel
    have HZ1 : Hid (dk.size = N) := S1.size
    by_cases hlt : a + 20 ≤ N
    · have hltz : (a : Int) + 20 ≤ (N : Int) := by omega
      go_wp2_with fail
      refine (insertion_any eb pb blk off N cap a (a + 20) cf dk w0 wr HC.out S1 (by omega) hlt (by omega)).mono ?_
      rintro e w1 ⟨rfl, S2⟩
      clear S1
      obtain ⟨pI, bI⟩ := M.Blk.sorted HS.out dk a (a + 20) (by omega) (by rw [HZ1.out]; exact hlt) (fun i h1 h2 => HD.out.2.1 i h1 (by omega))
      generalize insertionSort (ltOf cf) dk a (a + 20) = dn at S2 pI bI
      have HD2 : Hid (M.Done (M.tl (ltOf cf)) 20 (a + 20) dn ∧ (∀ i, a + 20 ≤ i → i < N → dn[i]! = i) ∧ PermIn 0 N d dn) :=
        ⟨HD.out.1.step bI (fun t ht => pI.2.1 t (Or.inl ht)), fun i h1 h2 => by rw [pI.2.1 i (Or.inr h1)]; exact HD.out.2.1 i (by omega) h2, permIn_trans _ _ _ _ _ HD.out.2.2 (permIn_mono dk dn a (a + 20) 0 N (Nat.zero_le _) hlt (by rw [HZ1.out]; exact Nat.le_refl _) pI)⟩
      clear pI bI
      go_wp2
      go_roundg (N - (a + 20))
      case measure => omega
      case rel => exact ⟨a + 20, dn, by go_num, by go_num, hlt, Nat.le_refl _, HD2, S2⟩
    · have hltz : ¬ (a : Int) + 20 ≤ (N : Int) := by omega
      go_wp2_with fail
      refine (insertion_any eb pb blk off N cap a N cf dk w0 wr HC.out S1 haN (Nat.le_refl _) (by omega)).mono ?_
      rintro e w1 ⟨rfl, S2⟩
      clear S1
      obtain ⟨pI, bI⟩ := M.Blk.sorted HS.out dk a N haN (by rw [HZ1.out]; exact Nat.le_refl _) (fun i h1 h2 => HD.out.2.1 i h1 h2)
      generalize insertionSort (ltOf cf) dk a N = dn at S2 pI bI
      have HD2 : Hid (M.Chunks (M.tl (ltOf cf)) 20 0 N dn ∧ PermIn 0 N d dn) :=
        ⟨(HD.out.1.congr (fun t ht => pI.2.1 t (Or.inl ht))).chunks haN (by omega) (fun _ => bI), permIn_trans _ _ _ _ _ HD.out.2.2 (permIn_mono dk dn a N 0 N (Nat.zero_le _) (Nat.le_refl _) (by rw [HZ1.out]; exact Nat.le_refl _) pI)⟩
      clear pI bI HD HZ1 hltz hlt haN hkx
      go_wp2_with fail
      go_loopg [6] N (fun kx s6 wr => ∃ (s : Nat) (dk : Array Nat), s6 = .int .i64 s ∧ 20 ≤ s ∧ s ≤ N + N + 20 ∧ N - s ≤ kx ∧ Hid (M.Chunks (M.tl (ltOf cf)) s 0 N dk ∧ PermIn 0 N d dk) ∧ Rw eb pb blk off N w0 dk wr)
      case atStart => exact ⟨20, dn, rfl, Nat.le_refl _, by omega, by omega, HD2, S2⟩
      case round =>
        clear S2 HD2
        obtain ⟨s, dk2, rfl, hs20, hsN, hkx, HK, S3⟩ := hrel
        by_cases hsl : s < N
        · have hslz : (s : Int) < (N : Int) := by omega
          go_wp2_with fail
          go_loopg [7, 8] N (fun kx s7 s8 wr => ∃ (a2 : Nat) (dk : Array Nat), s7 = .int .i64 a2 ∧ s8 = .int .i64 ((a2 : Int) + 2 * (s : Int)) ∧ a2 ≤ N ∧ N - a2 ≤ kx ∧ Hid (M.Done (M.tl (ltOf cf)) (2 * s) a2 dk ∧ M.Chunks (M.tl (ltOf cf)) s a2 N dk ∧ PermIn 0 N d dk) ∧ Rw eb pb blk off N w0 dk wr)
          case atStart => exact ⟨0, dk2, rfl, by go_num, Nat.zero_le _, by omega, ⟨M.Done.zero _ _, HK.out.1, HK.out.2⟩, S3⟩
          case round =>
            clear S3 HK
            obtain ⟨a2, dk3, rfl, rfl, ha2, hkx2, HK2, S4⟩ := hrel
            have HZ3 : Hid (dk3.size = N) := S4.size
            by_cases h2 : a2 + 2 * s ≤ N
            · have h2z : (a2 : Int) + 2 * (s : Int) ≤ (N : Int) := by omega
              go_wp2_with fail
              have b1 : M.Blk (M.tl (ltOf cf)) a2 (a2 + s) dk3 := by
                have := HK2.out.2.1.first (by omega)
                rwa [Nat.min_eq_left (by omega)] at this
              have b2 : M.Blk (M.tl (ltOf cf)) (a2 + s) (a2 + 2 * s) dk3 := by
                have := HK2.out.2.1.second (by omega)
                rwa [Nat.min_eq_left (by omega), show a2 + s + s = a2 + 2 * s by omega] at this
              have hsy := sym_any eb pb blk off N cap cf HS.out w0 HC.out (by omega) (2 * s + 1) a2 (a2 + s) (a2 + 2 * s) dk3 wr (by omega) (b1.parts b2) (by omega) (by omega) h2 S4
              rw [show ((a2 + s : Nat) : Int) = (a2 : Int) + (s : Int) from by omega, show ((a2 + 2 * s : Nat) : Int) = (a2 : Int) + 2 * (s : Int) from by omega] at hsy
              refine hsy.mono ?_
              rintro e w5 ⟨rfl, d5, S5, p5, s5⟩
              have HK3 : Hid (M.Done (M.tl (ltOf cf)) (2 * s) (a2 + 2 * s) d5 ∧ M.Chunks (M.tl (ltOf cf)) s (a2 + 2 * s) N d5 ∧ PermIn 0 N d d5) :=
                ⟨HK2.out.1.step (b1.merged b2 (by omega) (by omega) (by rw [HZ3.out]; exact h2) p5 s5) (fun t ht => p5.2.1 t (Or.inl ht)), HK2.out.2.1.next.congr (fun t h1 _ => p5.2.1 t (Or.inr h1)),
                  permIn_trans _ _ _ _ _ HK2.out.2.2 (permIn_mono dk3 d5 a2 (a2 + 2 * s) 0 N (Nat.zero_le _) h2 (by rw [HZ3.out]; exact Nat.le_refl _) p5)⟩
              clear p5 s5 b1 b2 hsy S4 HK2
              go_wp2
              go_roundg (N - (a2 + 2 * s))
              case measure => omega
              case rel => exact ⟨a2 + 2 * s, d5, by go_num, by go_num, h2, Nat.le_refl _, HK3, S5⟩
            · have h2z : ¬ (a2 : Int) + 2 * (s : Int) ≤ (N : Int) := by omega
              by_cases h3 : a2 + s < N
              · have h3z : (a2 : Int) + (s : Int) < (N : Int) := by omega
                go_wp2_with fail
                have b1 : M.Blk (M.tl (ltOf cf)) a2 (a2 + s) dk3 := by
                  have := HK2.out.2.1.first (by omega)
                  rwa [Nat.min_eq_left (by omega)] at this
                have b2 : M.Blk (M.tl (ltOf cf)) (a2 + s) N dk3 := by
                  have := HK2.out.2.1.second (by omega)
                  rwa [Nat.min_eq_right (by omega)] at this
                have hsy := sym_any eb pb blk off N cap cf HS.out w0 HC.out (by omega) (N + 1) a2 (a2 + s) N dk3 wr (by omega) (b1.parts b2) (by omega) h3 (Nat.le_refl _) S4
                rw [show ((a2 + s : Nat) : Int) = (a2 : Int) + (s : Int) from by omega] at hsy
                refine hsy.mono ?_
                rintro e w5 ⟨rfl, d5, S5, p5, s5⟩
                have HK3 : Hid (M.Chunks (M.tl (ltOf cf)) (s * 2) 0 N d5 ∧ PermIn 0 N d d5) := by
                  refine ⟨?_, permIn_trans _ _ _ _ _ HK2.out.2.2 (permIn_mono dk3 d5 a2 N 0 N (Nat.zero_le _) (Nat.le_refl _) (by rw [HZ3.out]; exact Nat.le_refl _) p5)⟩
                  rw [Nat.mul_comm s 2]
                  exact (HK2.out.1.congr (fun t ht => p5.2.1 t (Or.inl ht))).chunks ha2 (by omega) (fun _ => b1.merged b2 (by omega) (by omega) (by rw [HZ3.out]; exact Nat.le_refl _) p5 s5)
                clear p5 s5 b1 b2 hsy S4 HK2
                go_wp2
                go_roundg (N - s * 2)
                case measure => omega
                case rel => exact ⟨s * 2, d5, by go_num, by omega, by omega, Nat.le_refl _, HK3, S5⟩
              · have h3z : ¬ (a2 : Int) + (s : Int) < (N : Int) := by omega
                have HK3 : Hid (M.Chunks (M.tl (ltOf cf)) (s * 2) 0 N dk3 ∧ PermIn 0 N d dk3) := by
                  refine ⟨?_, HK2.out.2.2⟩
                  rw [Nat.mul_comm s 2]
                  refine HK2.out.1.chunks ha2 (by omega) (fun h => ?_)
                  have := HK2.out.2.1.first h
                  rwa [Nat.min_eq_right (by omega)] at this
                clear HK2
                go_wp2
                go_roundg (N - s * 2)
                case measure => omega
                case rel => exact ⟨s * 2, dk3, by go_num, by omega, by omega, Nat.le_refl _, HK3, S4⟩
        · have hslz : ¬ (s : Int) < (N : Int) := by omega
          go_wp2
          go_end0
          refine ⟨rfl, dk2, S3, HK.out.2, ?_⟩
          rcases Nat.eq_zero_or_pos N with h0 | h0
          · intro p q hp hpq hq; omega
          · have := (HK.out.1.first h0).s
            rw [Nat.zero_add, Nat.min_eq_right (by omega)] at this
            exact this

set_option maxHeartbeats 1000000 in
theorem sortStable_any (eb pb blk off N cap : Nat) (cf : Nat → Nat → Int) (hS : SWO (ltOf cf)) (d : Array Nat) (w0 w : World) (C : CmpOK eb pb blk off N cf w0) (S : Rw eb pb blk off N w0 d w)
    (hid : Hid (∀ i, i < N → d[i]! = i)) (hN : N < 1099511627776) :
    Calls Try.prog 12 #[.slice (some ⟨blk, off, none⟩) N cap, .func (.func 13) #[] #[]] w (SortPost eb pb blk off N cf w0 d) := by
  go_enter Try.func12, Try.ntmps12
  go_wp2_with fail
  refine (stable_any eb pb blk off N cap cf hS d w0 w C S hid.out hN).mono ?_
  rintro e w1 ⟨rfl, h⟩
  go_wp2
  go_end0
  exact ⟨rfl, h⟩

set_option maxHeartbeats 1000000 in
theorem sortPrices_any (eb pb blk off N cap : Nat) (cf : Nat → Nat → Int) (hS : SWO (ltOf cf)) (d : Array Nat) (w0 w : World) (C : CmpOK eb pb blk off N cf w0) (S : Rw eb pb blk off N w0 d w)
    (hid : Hid (∀ i, i < N → d[i]! = i)) (hN : N < 1099511627776) :
    Calls Try.prog 11 #[.slice (some ⟨blk, off, none⟩) N cap] w (SortPost eb pb blk off N cf w0 d) := by
  go_enter Try.func11, Try.ntmps11
  go_wp2_with fail
  refine (sortStable_any eb pb blk off N cap cf hS d w0 w C S hid hN).mono ?_
  rintro e w1 ⟨rfl, h⟩
  go_wp2
  go_end0
  exact ⟨rfl, h⟩

set_option maxHeartbeats 1000000 in
theorem zzSort_any (eb pb blk off N cap : Nat) (cf : Nat → Nat → Int) (hS : SWO (ltOf cf)) (d : Array Nat) (w0 w : World) (C : CmpOK eb pb blk off N cf w0) (S : Rw eb pb blk off N w0 d w)
    (hid : Hid (∀ i, i < N → d[i]! = i)) (hN : N < 1099511627776) :
    Calls Try.prog 9 #[.slice (some ⟨blk, off, none⟩) N cap] w (SortPost eb pb blk off N cf w0 d) := by
  go_enter Try.func9, Try.ntmps9
  go_wp2_with fail
  refine (sortPrices_any eb pb blk off N cap cf hS d w0 w C S hid hN).mono ?_
  rintro e w1 ⟨rfl, h⟩
  go_wp2
  go_end0
  exact ⟨rfl, h⟩
end Go.Proofs.Qxb6614512a
