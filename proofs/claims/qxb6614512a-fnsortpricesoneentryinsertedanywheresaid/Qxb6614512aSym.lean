/-
  slices.symMergeCmpFunc at filePrice: the walk where one of the two parts is a single entry.
-/
import Derived.Test.Qxb6614512aIns
import Derived.Test.Qxb6614512aMath3
namespace Go.Proofs.Qxb6614512a
open Go.Shelf Go.RowKit Go.Lib Go.Sort

set_option maxHeartbeats 2000000 in
set_option maxRecDepth 100000 in
/-- One entry on the left. -/
theorem sym_leaf1 (eb pb blk off N cap a b : Nat) (cf : Nat → Nat → Int) (hS : SWO (ltOf cf)) (d : Array Nat) (w0 w : World) (C : CmpOK eb pb blk off N cf w0) (S : Rw eb pb blk off N w0 d w)
    (hP : M.Parts (M.tl (ltOf cf)) a (a + 1) b d) (hmb : a + 1 < b) (hb : b ≤ N) (hN : N < 4611686018427387904) :
    Calls Try.prog 18 #[.slice (some ⟨blk, off, none⟩) N cap, .int .i64 a, .int .i64 ((a + 1 : Nat) : Int), .int .i64 b, .func (.func 13) #[] #[]] w fun e w' => e = .returned (.tuple #[]) ∧
      ∃ d' : Array Nat, Rw eb pb blk off N w0 d' w' ∧ PermIn a b d d' ∧ SortedIn (M.tl (ltOf cf)) a b d' := by
  have mixed : Try.prog.follows .mixedOrders = true := by kernel_rfl
  have HC : Hid (CmpOK eb pb blk off N cf w0) := C
  have HS : Hid (SWO (M.tl (ltOf cf))) := M.tl_swo hS
  have HP : Hid (M.Parts (M.tl (ltOf cf)) a (a + 1) b d) := hP
  have HZ : Hid (d.size = N) := S.size
  clear C hS hP
  obtain ⟨m, hm⟩ : ∃ m : Nat, m = a + 1 := ⟨_, rfl⟩
  rw [← hm]
  have HM : Hid (m = a + 1) := hm
  have t1 : ((m : Int) - a == 1) = true := by rw [beq_iff_eq]; omega
  have hma : a < m := by omega
  have hmb' : m < b := by omega
  clear hm hmb
  go_enter Try.func18, Try.ntmps18
  go_wp2
  go_loopg [10, 11] (b - m) (fun kx s1 s2 wr => ∃ (i j : Nat), s1 = .int .i64 i ∧ s2 = .int .i64 j ∧ m ≤ i ∧ i ≤ j ∧ j ≤ b ∧ j - i ≤ kx ∧ Hid ((∀ h, a + 1 ≤ h → h < i → M.tl (ltOf cf) d[h]! d[a]! = true) ∧ (∀ h, j ≤ h → h < b → M.tl (ltOf cf) d[h]! d[a]! = false)) ∧ Rw eb pb blk off N w0 d wr)
  case atStart => exact ⟨m, b, rfl, rfl, Nat.le_refl _, by omega, Nat.le_refl _, Nat.le_refl _, ⟨fun h h1 h2 => by have := HM.out; omega, fun h h1 h2 => by omega⟩, S⟩
  case round =>
    clear S
    obtain ⟨i, j, rfl, rfl, hmi, hij, hjb, hkx, HF, S1⟩ := hrel
    by_cases hlt : i < j
    · have hltz : (i : Int) < (j : Int) := by omega
      obtain ⟨h, hh⟩ : ∃ h : Nat, h = (i + j) / 2 := ⟨_, rfl⟩
      have eh : ((i : Int) + j) / 2 = h := by omega
      have hih : i ≤ h := by omega
      have hhj : h < j := by omega
      clear hh
      have zh : (h : Int) < (N : Int) := by omega
      have zh0 : (0 : Int) ≤ (h : Int) := by omega
      have th : ((h : Int)).toNat = h := by omega
      have za : (a : Int) < (N : Int) := by omega
      have za0 : (0 : Int) ≤ (a : Int) := by omega
      have ta : ((a : Int)).toNat = a := by omega
      obtain ⟨x, hx⟩ : ∃ x, d[h]! = x := ⟨_, rfl⟩
      obtain ⟨y, hy⟩ : ∃ y, d[a]! = y := ⟨_, rfl⟩
      obtain ⟨lx0, lx1⟩ := S1.ld (i := h) (by omega) hx
      obtain ⟨ly0, ly1⟩ := S1.ld (i := a) (by omega) hy
      have hcg := HC.out.at S1 (i := h) (j := a) (by omega) hx (by omega) hy
      have HT : Hid (M.tl (ltOf cf) d[h]! d[a]! = decide (cf x y < 0)) := by
        show _ = _
        rw [M.tl_of_tag (HP.out.tags a h (Nat.le_refl _) (by omega) (by have := HM.out; omega) (by omega)), hx, hy]; rfl
      clear hx hy
      go_wp2_with fail
      by_cases hlv : cf x y < 0
      · go_quiet_grown (first | (go_at_call 13; refine Calls.grown_of (hcg _ _)))
        have S3 := S1.grown nq osq
        clear S1 hcg lx0 lx1 ly0 ly1
        go_wp2
        go_roundg (j - (h + 1))
        case measure => omega
        case rel => exact ⟨h + 1, j, by go_num, rfl, by omega, by omega, hjb, Nat.le_refl _, ⟨M.search1_up HS.out HP.out.sr (by have := HM.out; omega) (by omega) (by rw [HT.out]; exact decide_eq_true hlv), HF.out.2⟩, S3⟩
      · go_quiet_grown (first | (go_at_call 13; refine Calls.grown_of (hcg _ _)))
        have S3 := S1.grown nq osq
        clear S1 hcg lx0 lx1 ly0 ly1
        go_wp2
        go_roundg (h - i)
        case measure => omega
        case rel => exact ⟨i, h, rfl, rfl, hmi, hih, by omega, Nat.le_refl _, ⟨HF.out.1, M.search1_down HS.out HP.out.sr (by have := HM.out; omega) (by rw [HT.out]; exact decide_eq_false (by omega))⟩, S3⟩
    · have hltz : ¬ (i : Int) < (j : Int) := by omega
      have hije : Hid (j = i) := by show _ = _; omega
      obtain ⟨q, hq⟩ : ∃ q : Nat, q = i - 1 := ⟨_, rfl⟩
      have eq1 : (i : Int) - 1 = q := by omega
      have HQ : Hid (q + 1 = i) := by show _ = _; omega
      have haq : a ≤ q := by omega
      clear hq
      go_wp2_with fail
      go_loopg [13] (q - a) (fun kx s wr => ∃ (k : Nat) (dk : Array Nat), s = .int .i64 k ∧ a ≤ k ∧ k ≤ q ∧ q - k ≤ kx ∧ Hid (PermIn a b d dk) ∧ Hid (M.fn dk = M.rotF (M.fn d) a (a + 1) (k + 1)) ∧ Rw eb pb blk off N w0 dk wr)
      case atStart => exact ⟨a, d, rfl, Nat.le_refl _, haq, Nat.le_refl _, permIn_refl _ _ _, M.rot1_start _ _, S1⟩
      case round =>
        clear S1
        obtain ⟨k, dk, rfl, hak, hkq, hkx2, HPm, HR, S2⟩ := hrel
        by_cases hk : k < q
        · have hkz : (k : Int) < (q : Int) := by omega
          have hqN : k + 1 < N := by have := HQ.out; omega
          have zk : (k : Int) < (N : Int) := by omega
          have zk1 : (k : Int) + 1 < (N : Int) := by omega
          have zk0 : (0 : Int) ≤ (k : Int) := by omega
          have zk10 : (0 : Int) ≤ (k : Int) + 1 := by omega
          have tk : ((k : Int)).toNat = k := by omega
          have tk1 : ((k : Int) + 1).toNat = k + 1 := by omega
          have rk1 : IntKind.i64.wrap ((k : Int) + 1) = (k : Int) + 1 := by rw [IntKind.wrap_i64]; omega
          obtain ⟨x, hx⟩ : ∃ x, dk[k]! = x := ⟨_, rfl⟩
          obtain ⟨y, hy⟩ : ∃ y, dk[k + 1]! = y := ⟨_, rfl⟩
          obtain ⟨c0, c1, f0, f1⟩ := S2.cells (i := k) (by omega) hx
          obtain ⟨e0, e1, g0, g1⟩ := S2.cells (i := k + 1) (by omega) hy
          have S3 := S2.swap (i := k) (j := k + 1) (by omega) (by omega) hx hy
          have HZ2 : Hid (dk.size = N) := S2.size
          clear S2 hx hy
          go_wp2_with fail
          go_big_region_o
          clear c0 c1 f0 f1 e0 e1 g0 g1
          go_wp2
          go_roundg (q - (k + 1))
          case measure => omega
          case rel =>
            have h1 := HZ2.out
            have h2 := HQ.out
            exact ⟨k + 1, swp dk k (k + 1), by go_num, by omega, by omega, Nat.le_refl _, permIn_trans _ _ _ _ _ HPm.out (swp_permIn dk a b k (k + 1) hak (by omega) (by omega) (by omega) (by omega)), M.rot1_step _ dk a k hak (by omega) HR.out, S3⟩
        · have hkz : ¬ (k : Int) < (q : Int) := by omega
          have hkq' : Hid (k = q) := by show _ = _; omega
          go_wp2
          refine bodyPost_ret (results_none rfl _ _ _) rfl ?_
          refine ⟨rfl, dk, S2, HPm.out, M.leaf1 HS.out d dk a b i (by have := HM.out; omega) (by omega) HP.out.sr HF.out.1 (by have := HF.out.2; rw [hije.out] at this; exact this) ?_⟩
          rw [HR.out, hkq'.out, HQ.out]

set_option maxHeartbeats 2000000 in
set_option maxRecDepth 100000 in
/-- One entry on the right, more than one on the left. -/
theorem sym_leaf2 (eb pb blk off N cap a m : Nat) (cf : Nat → Nat → Int) (hS : SWO (ltOf cf)) (d : Array Nat) (w0 w : World) (C : CmpOK eb pb blk off N cf w0) (S : Rw eb pb blk off N w0 d w)
    (hP : M.Parts (M.tl (ltOf cf)) a m (m + 1) d) (ham : a + 1 < m) (hb : m + 1 ≤ N) (hN : N < 4611686018427387904) :
    Calls Try.prog 18 #[.slice (some ⟨blk, off, none⟩) N cap, .int .i64 a, .int .i64 m, .int .i64 ((m + 1 : Nat) : Int), .func (.func 13) #[] #[]] w fun e w' => e = .returned (.tuple #[]) ∧
      ∃ d' : Array Nat, Rw eb pb blk off N w0 d' w' ∧ PermIn a (m + 1) d d' ∧ SortedIn (M.tl (ltOf cf)) a (m + 1) d' := by
  have mixed : Try.prog.follows .mixedOrders = true := by kernel_rfl
  have HC : Hid (CmpOK eb pb blk off N cf w0) := C
  have HS : Hid (SWO (M.tl (ltOf cf))) := M.tl_swo hS
  have HP : Hid (M.Parts (M.tl (ltOf cf)) a m (m + 1) d) := hP
  have HZ : Hid (d.size = N) := S.size
  clear C hS hP
  obtain ⟨b, hbm⟩ : ∃ b : Nat, b = m + 1 := ⟨_, rfl⟩
  have HB : Hid (b = m + 1) := hbm
  have eb1 : ((m + 1 : Nat) : Int) = (b : Int) := by omega
  rw [eb1]
  have t1 : ((m : Int) - a == 1) = false := by rw [beq_eq_false_iff_ne]; omega
  have t2 : ((b : Int) - m == 1) = true := by rw [beq_iff_eq]; omega
  have hmb' : m < b := by omega
  have hmN : m < N := by omega
  have hbN : b ≤ N := by omega
  clear hbm eb1
  go_enter Try.func18, Try.ntmps18
  go_wp2
  go_loopg [14, 15] (m - a) (fun kx s1 s2 wr => ∃ (i j : Nat), s1 = .int .i64 i ∧ s2 = .int .i64 j ∧ a ≤ i ∧ i ≤ j ∧ j ≤ m ∧ j - i ≤ kx ∧ Hid ((∀ h, a ≤ h → h < i → M.tl (ltOf cf) d[m]! d[h]! = false) ∧ (∀ h, j ≤ h → h < m → M.tl (ltOf cf) d[m]! d[h]! = true)) ∧ Rw eb pb blk off N w0 d wr)
  case atStart => exact ⟨a, m, rfl, rfl, Nat.le_refl _, by omega, Nat.le_refl _, Nat.le_refl _, ⟨fun h h1 h2 => by omega, fun h h1 h2 => by omega⟩, S⟩
  case round =>
    clear S
    obtain ⟨i, j, rfl, rfl, hmi, hij, hjb, hkx, HF, S1⟩ := hrel
    by_cases hlt : i < j
    · have hltz : (i : Int) < (j : Int) := by omega
      obtain ⟨h, hh⟩ : ∃ h : Nat, h = (i + j) / 2 := ⟨_, rfl⟩
      have eh : ((i : Int) + j) / 2 = h := by omega
      have hih : i ≤ h := by omega
      have hhj : h < j := by omega
      clear hh
      have zh : (h : Int) < (N : Int) := by omega
      have zh0 : (0 : Int) ≤ (h : Int) := by omega
      have th : ((h : Int)).toNat = h := by omega
      have za : (m : Int) < (N : Int) := by omega
      have za0 : (0 : Int) ≤ (m : Int) := by omega
      have ta : ((m : Int)).toNat = m := by omega
      obtain ⟨x, hx⟩ : ∃ x, d[m]! = x := ⟨_, rfl⟩
      obtain ⟨y, hy⟩ : ∃ y, d[h]! = y := ⟨_, rfl⟩
      obtain ⟨lx0, lx1⟩ := S1.ld (i := m) (by omega) hx
      obtain ⟨ly0, ly1⟩ := S1.ld (i := h) (by omega) hy
      have hcg := HC.out.at S1 (i := m) (j := h) (by omega) hx (by omega) hy
      have HT : Hid (M.tl (ltOf cf) d[m]! d[h]! = decide (cf x y < 0)) := by
        show _ = _
        rw [M.tl_of_tag (HP.out.tags h m (by omega) (by omega) (by omega) (by omega)), hx, hy]; rfl
      clear hx hy
      go_wp2_with fail
      by_cases hlv : cf x y < 0
      · go_quiet_grown (first | (go_at_call 13; refine Calls.grown_of (hcg _ _)))
        have S3 := S1.grown nq osq
        clear S1 hcg lx0 lx1 ly0 ly1
        go_wp2
        go_roundg (h - i)
        case measure => omega
        case rel => exact ⟨i, h, rfl, rfl, hmi, hih, by omega, Nat.le_refl _, ⟨HF.out.1, M.search2_down HS.out HP.out.sl (by omega) (by rw [HT.out]; exact decide_eq_true hlv)⟩, S3⟩
      · go_quiet_grown (first | (go_at_call 13; refine Calls.grown_of (hcg _ _)))
        have S3 := S1.grown nq osq
        clear S1 hcg lx0 lx1 ly0 ly1
        go_wp2
        go_roundg (j - (h + 1))
        case measure => omega
        case rel => exact ⟨h + 1, j, by go_num, rfl, by omega, by omega, hjb, Nat.le_refl _, ⟨M.search2_up HS.out HP.out.sl (by omega) (by rw [HT.out]; exact decide_eq_false (by omega)), HF.out.2⟩, S3⟩
    · have hltz : ¬ (i : Int) < (j : Int) := by omega
      have hije : Hid (j = i) := by show _ = _; omega
      go_wp2_with fail
      go_loopg [17] (m - i) (fun kx s wr => ∃ (k : Nat) (dk : Array Nat), s = .int .i64 k ∧ i ≤ k ∧ k ≤ m ∧ k - i ≤ kx ∧ Hid (PermIn a (m + 1) d dk) ∧ Hid (M.fn dk = M.rotF (M.fn d) k m (m + 1)) ∧ Rw eb pb blk off N w0 dk wr)
      case atStart => exact ⟨m, d, rfl, by omega, Nat.le_refl _, Nat.le_refl _, permIn_refl _ _ _, M.rot2_start _ _, S1⟩
      case round =>
        clear S1
        obtain ⟨k, dk, rfl, hik, hkm, hkx2, HPm, HR, S2⟩ := hrel
        by_cases hk : i < k
        · have hkz : (i : Int) < (k : Int) := by omega
          obtain ⟨kp, rfl⟩ : ∃ kp, k = kp + 1 := ⟨k - 1, by omega⟩
          have zk : (kp : Int) < (N : Int) := by omega
          have zk1 : (kp : Int) + 1 < (N : Int) := by omega
          have zk0 : (0 : Int) ≤ (kp : Int) := by omega
          have zk10 : (0 : Int) ≤ (kp : Int) + 1 := by omega
          have tk : ((kp : Int)).toNat = kp := by omega
          have tk1 : ((kp : Int) + 1).toNat = kp + 1 := by omega
          have rk : IntKind.i64.wrap (kp : Int) = (kp : Int) := by rw [IntKind.wrap_i64]; omega
          have hkz' : (i : Int) < (kp : Int) + 1 := by omega
          obtain ⟨x, hx⟩ : ∃ x, dk[kp + 1]! = x := ⟨_, rfl⟩
          obtain ⟨y, hy⟩ : ∃ y, dk[kp]! = y := ⟨_, rfl⟩
          obtain ⟨c0, c1, f0, f1⟩ := S2.cells (i := kp + 1) (by omega) hx
          obtain ⟨e0, e1, g0, g1⟩ := S2.cells (i := kp) (by omega) hy
          have S3 := S2.swap (i := kp + 1) (j := kp) (by omega) (by omega) hx hy
          have HZ2 : Hid (dk.size = N) := S2.size
          clear S2 hx hy
          go_wp2_with fail
          go_big_region_o
          clear c0 c1 f0 f1 e0 e1 g0 g1
          go_wp2
          go_roundg (kp - i)
          case measure => omega
          case rel =>
            have h1 := HZ2.out
            exact ⟨kp, swp dk (kp + 1) kp, by first | rfl | go_num, by omega, by omega, Nat.le_refl _, permIn_trans _ _ _ _ _ HPm.out (swp_permIn dk a (m + 1) (kp + 1) kp (by omega) (by omega) (by omega) (by omega) (by omega)), M.rot2_step _ dk kp m hkm (by omega) HR.out, S3⟩
        · have hkz : ¬ (i : Int) < (k : Int) := by omega
          have hki' : Hid (k = i) := by show _ = _; omega
          go_wp2
          refine bodyPost_ret (results_none rfl _ _ _) rfl ?_
          refine ⟨rfl, dk, S2, HPm.out, M.leaf2 HS.out d dk a m i hmi (by omega) HP.out.sl HF.out.1 (by have := HF.out.2; rw [hije.out] at this; exact this) ?_⟩
          rw [HR.out, hki'.out]

end Go.Proofs.Qxb6614512a
