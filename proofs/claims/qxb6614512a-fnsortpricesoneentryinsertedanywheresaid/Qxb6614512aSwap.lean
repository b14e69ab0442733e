/-
  slices.swapRangeCmpFunc, rotateCmpFunc at filePrice: the walks.
-/
import Derived.Test.Qxb6614512aProg
import Derived.Test.Qxb6614512aMath2
import Derived.Shelf.SlSortCmp.KitK
import Derived.Deep.LoopGhost
namespace Go.Proofs.Qxb6614512a
open Go.Shelf Go.RowKit Go.Lib Go.Sort

/-- An entry, by its tag: two pointers into the row of days and the row of prices. -/
def encT (eb pb : Nat) (x : Nat) : List Value := [.pointer (some ⟨eb, x, none⟩), .pointer (some ⟨pb, x, none⟩)]

theorem encT_length (eb pb x : Nat) : (encT eb pb x).length = 2 := rfl
theorem encT_one (eb pb : Nat) : ∀ x, ∀ v ∈ encT eb pb x, v.oneCell' = true := by
  intro x v hv
  simp only [encT, List.mem_cons, List.mem_nil_iff, or_false] at hv
  rcases hv with rfl | rfl <;> rfl

/-- The world w is one of the sort's over the base world w0; the row at (blk, off) holds the N entries whose tags are d. -/
structure Rw (eb pb blk off N : Nat) (w0 : World) (d : Array Nat) (w : World) : Prop where
  sw : SWK (encT eb pb) 2 w0 blk off d w
  size : d.size = N
  base : ∃ d0, RowK (encT eb pb) 2 w0 blk off d0 ∧ d0.size = N
  tg : ∀ i, i < N → d[i]! < N

section
variable {eb pb blk off N : Nat} {dk : Array Nat} {w0 wr : World}

/-- An entry's two cells. -/
theorem Rw.cells (S : Rw eb pb blk off N w0 dk wr) {i x : Nat} (hi : i < N) (hx : dk[i]! = x) :
    wr.cell? ⟨blk, off + i * 2, none⟩ = some (.pointer (some ⟨eb, x, none⟩)) ∧ wr.cell? ⟨blk, off + i * 2 + 1, none⟩ = some (.pointer (some ⟨pb, x, none⟩)) ∧
      wr.frozen? ⟨blk, off + i * 2, none⟩ = false ∧ wr.frozen? ⟨blk, off + i * 2 + 1, none⟩ = false := by
  subst hx
  obtain ⟨d0, R, hz⟩ := S.base
  have hH := S.sw.holds R.hblk R.hH (S.size.trans hz.symm)
  have hi' : i < dk.size := by rw [S.size]; exact hi
  have h0 := hH.cell (i := i) (c := 0) hi' (by omega)
  have h1 := hH.cell (i := i) (c := 1) hi' (by omega)
  exact ⟨h0.1, h1.1, h0.2, h1.2⟩

/-- The exchange of two entries, as the walk leaves it. -/
theorem Rw.swap (S : Rw eb pb blk off N w0 dk wr) {i j x y : Nat} (hi : i < N) (hj : j < N) (hx : dk[i]! = x) (hy : dk[j]! = y) :
    Rw eb pb blk off N w0 (swp dk i j) ((((wr.setCell ⟨blk, off + i * 2, none⟩ (.pointer (some ⟨eb, y, none⟩))).setCell ⟨blk, off + i * 2 + 1, none⟩ (.pointer (some ⟨pb, y, none⟩))).setCell ⟨blk, off + j * 2, none⟩ (.pointer (some ⟨eb, x, none⟩))).setCell ⟨blk, off + j * 2 + 1, none⟩ (.pointer (some ⟨pb, x, none⟩))).drew := by
  subst hx
  subst hy
  obtain ⟨d0, R, hz⟩ := S.base
  refine ⟨S.sw.swapped R i j (by rw [S.size]; exact hi) (by rw [S.size]; exact hj), (size_swp _ _ _).trans S.size, S.base, fun t ht => ?_⟩
  rw [swp_get dk (by rw [S.size]; exact hi) (by rw [S.size]; exact hj)]
  split
  · exact S.tg i hi
  · split
    · exact S.tg j hj
    · exact S.tg t ht

/-- Draws and new blocks behind a world of the sort's. -/
theorem Rw.grown (S : Rw eb pb blk off N w0 dk wr) (n : Nat) (os : Array Obj) : Rw eb pb blk off N w0 dk (grow (wr.drewN n) os) := ⟨S.sw.grown n os, S.size, S.base, S.tg⟩

/-- An entry's two cells, in every world of that kind. -/
theorem Rw.ld (S : Rw eb pb blk off N w0 dk wr) {i x : Nat} (hi : i < N) (hx : dk[i]! = x) :
    (∀ n os, (grow (wr.drewN n) os).cell? ⟨blk, off + i * 2, none⟩ = some (.pointer (some ⟨eb, x, none⟩))) ∧ (∀ n os, (grow (wr.drewN n) os).cell? ⟨blk, off + i * 2 + 1, none⟩ = some (.pointer (some ⟨pb, x, none⟩))) :=
  ⟨fun n os => ((S.grown n os).cells hi hx).1, fun n os => ((S.grown n os).cells hi hx).2.1⟩
end

/-- What the sort asks of the closure 'cmp' (function 13): in every world that the sort passes through it hands back 'cf x y' for the entries tagged x and y; it may draw and lay blocks; it turns nothing. -/
def CmpOK (eb pb blk off N : Nat) (cf : Nat → Nat → Int) (w0 : World) : Prop :=
  ∀ d W, Rw eb pb blk off N w0 d W → ∀ x y, x < N → y < N →
    Calls Try.prog 13 #[.agg #[.pointer (some ⟨eb, x, none⟩), .pointer (some ⟨pb, x, none⟩)], .agg #[.pointer (some ⟨eb, y, none⟩), .pointer (some ⟨pb, y, none⟩)]] W fun e w' => e = .returned (.int .i64 (cf x y)) ∧ ∃ q os', w' = grow (W.drewN q) os'

theorem CmpOK.at {eb pb blk off N : Nat} {cf : Nat → Nat → Int} {w0 wr : World} {dk : Array Nat} (C : CmpOK eb pb blk off N cf w0) (S : Rw eb pb blk off N w0 dk wr) {i j x y : Nat} (hi : i < N) (hx : dk[i]! = x) (hj : j < N) (hy : dk[j]! = y) :
    ∀ n os, Calls Try.prog 13 #[.agg #[.pointer (some ⟨eb, x, none⟩), .pointer (some ⟨pb, x, none⟩)], .agg #[.pointer (some ⟨eb, y, none⟩), .pointer (some ⟨pb, y, none⟩)]] (grow (wr.drewN n) os) fun e w' => e = .returned (.int .i64 (cf x y)) ∧ ∃ q os', w' = grow ((grow (wr.drewN n) os).drewN q) os' :=
  fun n os => C dk _ (S.grown n os) x y (by rw [← hx]; exact S.tg i hi) (by rw [← hy]; exact S.tg j hj)

set_option maxHeartbeats 1000000 in
set_option maxRecDepth 100000 in
/-- swapRange: n exchanges. -/
theorem swapRange_any (eb pb blk off N cap a b n : Nat) (fv : Value) (d : Array Nat) (w0 w : World) (S : Rw eb pb blk off N w0 d w)
    (hab : a + n ≤ b) (hb : b + n ≤ N) (hN : N < 4611686018427387904) :
    Calls Try.prog 21 #[.slice (some ⟨blk, off, none⟩) N cap, .int .i64 a, .int .i64 b, .int .i64 n, fv] w fun e w' => e = .returned (.tuple #[]) ∧ Rw eb pb blk off N w0 (M.swr d a b n) w' := by
  have mixed : Try.prog.follows .mixedOrders = true := by kernel_rfl
  go_enter Try.func21, Try.ntmps21
  go_wp2
  go_loopg [10] n (fun kx s wr => ∃ i : Nat, s = .int .i64 i ∧ i ≤ n ∧ n - i ≤ kx ∧ Rw eb pb blk off N w0 (M.swr d a b i) wr)
  case atStart => exact ⟨0, rfl, by omega, by omega, S⟩
  case round =>
    clear S
    obtain ⟨i, rfl, hi, hkx, S1⟩ := hrel
    by_cases hlt : i < n
    · have hltz : (i : Int) < (n : Int) := by omega
      obtain ⟨x, hx⟩ : ∃ x, (M.swr d a b i)[a + i]! = x := ⟨_, rfl⟩
      obtain ⟨y, hy⟩ : ∃ y, (M.swr d a b i)[b + i]! = y := ⟨_, rfl⟩
      obtain ⟨c0, c1, f0, f1⟩ := S1.cells (i := a + i) (by omega) hx
      obtain ⟨e0, e1, g0, g1⟩ := S1.cells (i := b + i) (by omega) hy
      have S2 := S1.swap (i := a + i) (j := b + i) (by omega) (by omega) hx hy
      have za : (a : Int) + i < N := by omega
      have zb : (b : Int) + i < N := by omega
      have ta : ((a : Int) + i).toNat = a + i := by omega
      have tb : ((b : Int) + i).toNat = b + i := by omega
      have ra : IntKind.i64.wrap ((a : Int) + i) = (a : Int) + i := by rw [IntKind.wrap_i64]; omega
      have rb : IntKind.i64.wrap ((b : Int) + i) = (b : Int) + i := by rw [IntKind.wrap_i64]; omega
      have pa : (0 : Int) ≤ (a : Int) + i := by omega
      have qb : (0 : Int) ≤ (b : Int) + i := by omega
      clear S1 hx hy
      go_wp2_with fail
      go_big_region_o
      clear c0 c1 f0 f1 e0 e1 g0 g1 ta tb ra rb pa qb
      go_wp2
      go_roundg (n - (i + 1))
      case measure => omega
      case rel => exact ⟨i + 1, by go_num, by omega, Nat.le_refl _, S2⟩
    · have hltz : ¬ (i : Int) < (n : Int) := by omega
      go_wp2
      go_end0
      have : i = n := by omega
      subst this
      exact ⟨rfl, S1⟩

set_option maxHeartbeats 1000000 in
set_option maxRecDepth 100000 in
/-- rotate: [a, m) and [m, b) change places. -/
theorem rotate_any (eb pb blk off N cap a m b : Nat) (fv : Value) (d : Array Nat) (w0 w : World) (S : Rw eb pb blk off N w0 d w)
    (ham : a < m) (hmb : m < b) (hb : b ≤ N) (hN : N < 4611686018427387904) :
    Calls Try.prog 20 #[.slice (some ⟨blk, off, none⟩) N cap, .int .i64 a, .int .i64 m, .int .i64 b, fv] w fun e w' => e = .returned (.tuple #[]) ∧
      ∃ d' : Array Nat, Rw eb pb blk off N w0 d' w' ∧ PermIn a b d d' ∧ M.fn d' = M.rotF (M.fn d) a m b := by
  obtain ⟨i0, hi0⟩ : ∃ i0 : Nat, i0 = m - a := ⟨_, rfl⟩
  obtain ⟨j0, hj0⟩ : ∃ j0 : Nat, j0 = b - m := ⟨_, rfl⟩
  have ei0 : (m : Int) - a = i0 := by omega
  have ej0 : (b : Int) - m = j0 := by omega
  have I0 : Hid (i0 = m - a) := hi0
  have J0 : Hid (j0 = b - m) := hj0
  clear hi0 hj0
  go_enter Try.func20, Try.ntmps20
  go_wp2_with fail
  go_loopg [10, 11] (i0 + j0) (fun kx s1 s2 wr => ∃ (i j : Nat) (dk : Array Nat), s1 = .int .i64 i ∧ s2 = .int .i64 j ∧ 0 < i ∧ i ≤ m - a ∧ 0 < j ∧ j ≤ b - m ∧ i + j ≤ kx ∧ PermIn a b d dk ∧ Hid (M.rotF (M.fn dk) (m - i) m (m + j) = M.rotF (M.fn d) a m b) ∧ Rw eb pb blk off N w0 dk wr)
  case atStart => exact ⟨i0, j0, d, rfl, rfl, by have := I0.out; omega, by have := I0.out; omega, by have := J0.out; omega, by have := J0.out; omega, by omega, permIn_refl _ _ _, (by show _ = _; rw [I0.out, J0.out, show m - (m - a) = a by omega, show m + (b - m) = b by omega]), S⟩
  case round =>
    clear S ei0 ej0 I0 J0
    obtain ⟨i, j, dk, rfl, rfl, hi, hia, hj, hjb, hkx, hp, HR, S1⟩ := hrel
    have HZ : Hid (dk.size = N) := S1.size
    have HPm : Hid (PermIn a b d dk) := hp
    clear hp
    obtain ⟨p, hp0⟩ : ∃ p : Nat, p = m - i := ⟨_, rfl⟩
    have ep : (m : Int) - i = p := by omega
    have HP : Hid (p = m - i) := hp0
    clear hp0
    by_cases hne : i = j
    · subst hne
      have hneq : ((i : Int) != (i : Int)) = false := by simp
      go_wp2_with fail
      refine (swapRange_any eb pb blk off N cap p m i fv dk w0 wr S1 (by have := HP.out; omega) (by omega) (by omega)).mono ?_
      rintro e w1 ⟨rfl, S2⟩
      go_wp2
      go_end0
      refine ⟨rfl, _, S2, permIn_trans _ _ _ _ _ HPm.out (M.perm_swr dk a b p m (by have := HP.out; omega) (by rw [HZ.out]; omega) i (by have := HP.out; omega) (by omega)), ?_⟩
      rw [M.fn_swr dk p m i (by have := HP.out; omega) (by rw [HZ.out]; omega), ← HR.out, HP.out]
      exact M.rot_eq _ _ _ (by omega)
    · have hneq : ((i : Int) != (j : Int)) = true := by rw [bne_iff_ne]; omega
      by_cases hgt : j < i
      · have hgtz : (j : Int) < (i : Int) := by omega
        obtain ⟨q, hq0⟩ : ∃ q : Nat, q = i - j := ⟨_, rfl⟩
        have eq : (i : Int) - j = q := by omega
        have HQ : Hid (q = i - j) := hq0
        clear hq0
        go_wp2_with fail
        refine (swapRange_any eb pb blk off N cap p m j fv dk w0 wr S1 (by have := HP.out; omega) (by omega) (by omega)).mono ?_
        rintro e w1 ⟨rfl, S2⟩
        clear S1
        go_wp2
        go_roundg (q + j)
        case measure => have := HQ.out; omega
        case rel =>
          have h1 := HP.out
          have h2 := HQ.out
          have h3 := HZ.out
          refine ⟨q, j, M.swr dk p m j, by first | rfl | go_num, rfl, by omega, by omega, hj, hjb, Nat.le_refl _, permIn_trans _ _ _ _ _ HPm.out (M.perm_swr dk a b p m (by omega) (by omega) j (by omega) (by omega)), ?_, S2⟩
          show _ = _
          rw [← HR.out, M.fn_swr dk p m j (by omega) (by omega), h1, h2]
          exact M.rot_gt _ _ _ _ (by omega) hgt hj
      · have hgtz : ¬ (j : Int) < (i : Int) := by omega
        obtain ⟨q, hq0⟩ : ∃ q : Nat, q = j - i := ⟨_, rfl⟩
        have eq : (j : Int) - i = q := by omega
        have HQ : Hid (q = j - i) := hq0
        clear hq0
        obtain ⟨r, hr0⟩ : ∃ r : Nat, r = m + j - i := ⟨_, rfl⟩
        have er : (m : Int) + j - i = r := by omega
        have HR2 : Hid (r = m + j - i) := hr0
        clear hr0
        go_wp2_with fail
        refine (swapRange_any eb pb blk off N cap p r i fv dk w0 wr S1 (by have := HP.out; have := HR2.out; omega) (by have := HR2.out; omega) (by omega)).mono ?_
        rintro e w1 ⟨rfl, S2⟩
        clear S1
        go_wp2
        go_roundg (i + q)
        case measure => have := HQ.out; omega
        case rel =>
          have h1 := HP.out
          have h2 := HQ.out
          have h3 := HR2.out
          have h4 := HZ.out
          refine ⟨i, q, M.swr dk p r i, rfl, by first | rfl | go_num, hi, hia, by omega, by omega, Nat.le_refl _, permIn_trans _ _ _ _ _ HPm.out (M.perm_swr dk a b p r (by omega) (by omega) i (by omega) (by omega)), ?_, S2⟩
          show _ = _
          rw [← HR.out, M.fn_swr dk p r i (by omega) (by omega), h1, h2, h3]
          exact M.rot_lt _ _ _ _ (by omega) (by omega) hi

end Go.Proofs.Qxb6614512a
