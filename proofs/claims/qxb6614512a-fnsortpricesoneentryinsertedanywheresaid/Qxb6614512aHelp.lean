/-
  spendStrings, cloneStrings, priceList: the walks.
-/
import Derived.Test.Qxb6614512aClose
import Derived.WalkKit
import Derived.WalkSpells
import Derived.WalkLawsBesides
import Derived.Deep.OwnRows
import Derived.Deep.LoopGhost
namespace Go.Proofs.Qxb6614512a
open Go.Shelf Go.RowKit Go.Lib Go.Sort

theorem Try.info9 : (Try.prog.info? 9).map (fun i => (i.zero, i.size, i.bytes)) = some (some (.string ByteArray.empty), 1, 16) := by kernel_rfl

/-- The row that a loop of stores has filled up to k. -/
def fill (ss : Nat → ByteArray) (k : Nat) (i : Nat) : Value := if i < k then .string (ss i) else .string ByteArray.empty
theorem fill_zero (ss : Nat → ByteArray) (i : Nat) : fill ss 0 i = .string ByteArray.empty := by simp [fill]
theorem fill_step (ss : Nat → ByteArray) (k i : Nat) : (if i = k then .string (ss k) else fill ss k i) = fill ss (k + 1) i := by
  unfold fill
  by_cases h : i = k
  · subst h; simp
  · by_cases h2 : i < k
    · rw [if_neg h, if_pos h2, if_pos (by omega)]
    · rw [if_neg h, if_neg h2, if_neg (by omega)]
theorem fill_full (ss : Nat → ByteArray) (n i : Nat) (h : i < n) : fill ss n i = .string (ss i) := by simp [fill, h]

theorem Try.eqNil (w : World) (a : Option Addr) (n c n' c' : Nat) : (binOp .eql 22 (.slice a n c) (.slice none n' c')).run Try.prog w = .ok (.bool a.isNone) w := Lib.run_eql_slice_nil w _ _ a n c n' c' Try.underlying22

set_option maxHeartbeats 1000000 in
theorem clone_nil (w : World) : Calls Try.prog 7 #[.slice none 0 0] w fun e w' => e = .returned (.slice none 0 0) ∧ w' = w := by
  have hq := Try.eqNil
  go_enter Try.func7, Try.ntmps7
  go_wp2
  go_ret
  exact ⟨rfl, rfl⟩

set_option maxHeartbeats 1000000 in
theorem clone_some (b off n cap : Nat) (ss : Nat → ByteArray) (w : World) (hb : b < w.heap.size) (hc : ∀ i, i < n → w.cell? ⟨b, off + i, none⟩ = some (.string (ss i))) (hn : n ≤ 1048576) :
    Calls Try.prog 7 #[.slice (some ⟨b, off, none⟩) n cap] w fun e w' => e = .returned (.slice (some ⟨w.heap.size, 0, none⟩) n n) ∧ w'.rowIs w.heap.size 9 n (fun i => .string (ss i)) ∧ Below w.heap.size w w' := by
  have hq := Try.eqNil
  have hmk := run_make_row' (P := Try.prog) 22 9 (.string ByteArray.empty) 16 Try.underlying22 Try.info9 rfl .i64 .i64 n (by omega) (by omega)
  have HCc : Hid (∀ i, i < n → w.cell? ⟨b, off + i, none⟩ = some (.string (ss i))) := hc
  clear hc
  go_enter Try.func7, Try.ntmps7
  go_wp2
  go_loopg [4] n (fun kx s wr => ∃ k : Nat, s = .int .i64 k ∧ k ≤ n ∧ n - k ≤ kx ∧ wr.rowIs w.heap.size 9 n (fill ss k) ∧ Below w.heap.size w wr)
  case atStart => exact ⟨0, rfl, Nat.zero_le _, Nat.le_refl _, (World.rowIs_made w _ n 9).congr (fun i _ => (fill_zero ss i).symm), (Below.refl _ _).alloc (Nat.le_refl _) _⟩
  case round =>
    clear hq hmk
    obtain ⟨k, rfl, hk, hkx, hr, hbl⟩ := hrel
    by_cases hlt : k < n
    · have hltz : (k : Int) < (n : Int) := by omega
      have c0 : wr.cell? ⟨b, off + k, none⟩ = some (.string (ss k)) := (hbl.cell (p := ⟨b, off + k, none⟩) hb).trans (HCc.out k hlt)
      have c1 : wr.cell? ⟨w.heap.size, k, none⟩ = some (fill ss k k) := hr.cell hlt
      have f1 : wr.frozen? ⟨w.heap.size, k, none⟩ = false := hr.frozen k
      go_wp2
      go_roundg (n - (k + 1))
      case measure => omega
      case rel => exact ⟨k + 1, by go_num, by omega, Nat.le_refl _, (hr.set k (.string (ss k))).congr (fun i _ => fill_step ss k i), hbl.setCell (Nat.le_refl _) _⟩
    · have hltz : ¬ (k : Int) < (n : Int) := by omega
      go_wp2
      go_ret
      have : k = n := by omega
      subst this
      exact ⟨rfl, hr.congr (fun i hi => fill_full ss k i hi), hbl⟩

/-- A slice of n strings: no element, or a row of cells in a block below B. -/
def Str (p : Option Addr) (n : Nat) (ss : Nat → ByteArray) (B : Nat) (w : World) : Prop :=
  n = 0 ∨ ∃ b off, p = some ⟨b, off, none⟩ ∧ b < B ∧ ∀ i, i < n → w.cell? ⟨b, off + i, none⟩ = some (.string (ss i))

set_option maxHeartbeats 1000000 in
/-- spendStrings: some int, not above the budget. -/
theorem spend_any (p : Option Addr) (n cap B : Nat) (ss : Nat → ByteArray) (bud : Int) (w : World) (hS : Str p n ss B w) (hz : ∀ i, i < n → (ss i).size ≤ 1048576) (h0 : 0 ≤ bud) (h1 : bud ≤ 1048576) (hn : n ≤ 1048576) :
    Calls Try.prog 6 #[.slice p n cap, .int .i64 bud] w fun e w' => ∃ r : Int, e = .returned (.int .i64 r) ∧ w' = w ∧ r ≤ 1048576 := by
  have HS : Hid (Str p n ss B w) := hS
  have HZ : Hid (∀ i, i < n → (ss i).size ≤ 1048576) := hz
  clear hS hz
  go_enter Try.func6, Try.ntmps6
  go_wp2
  go_loopg [1, 5] n (fun kx s1 s wr => ∃ (k : Nat) (z : Int), s1 = .int .i64 z ∧ s = .int .i64 k ∧ k ≤ n ∧ n - k ≤ kx ∧ 0 ≤ z ∧ z ≤ 1048576 ∧ wr = w)
  case atStart => exact ⟨0, bud, rfl, rfl, Nat.zero_le _, Nat.le_refl _, h0, h1, rfl⟩
  case round =>
    obtain ⟨k, z, rfl, rfl, hk, hkx, hz0, hz1, rfl⟩ := hrel
    by_cases hlt : k < n
    · have hltz : (k : Int) < (n : Int) := by omega
      obtain ⟨b, off, rfl, hb, hc⟩ := HS.out.resolve_left (by omega)
      have c0 := hc k hlt
      have hsz := HZ.out k hlt
      clear hc HS HZ
      by_cases hneg : z - (16 + ((ss k).size : Int)) < 0
      · go_wp2
        go_ret
        exact ⟨_, rfl, rfl, by omega⟩
      · go_wp2
        go_roundg (n - (k + 1))
        case measure => omega
        case rel => exact ⟨k + 1, z - (16 + ((ss k).size : Int)), by first | rfl | go_num, by go_num, by omega, Nat.le_refl _, by omega, by omega, rfl⟩
    · have hltz : ¬ (k : Int) < (n : Int) := by omega
      go_wp2
      go_ret
      exact ⟨_, rfl, rfl, hz1⟩

theorem Try.info31 : (Try.prog.info? 31).map (fun i => (i.zero, i.size, i.bytes)) = some (some (.agg #[.pointer none, .pointer none]), 2, 16) := by kernel_rfl

theorem make_prices (n : Nat) (hn : n ≤ 1048576) (w : World) : (Instr.makeSlice 26 (.int .i64 (n : Int)) (.int .i64 (n : Int))).run Try.prog w = .ok (.slice (some ⟨w.heap.size, 0, none⟩) n n) (w.alloc (.cells (madeCells #[.pointer none, .pointer none] (n * 2)) 31)) := by
  obtain ⟨i, hi, hzz⟩ := Option.map_eq_some_iff.1 Try.info31
  simp only [Prod.mk.injEq] at hzz
  obtain ⟨hz, hs, hb⟩ := hzz
  have hr := run_make (P := Try.prog) w 26 31 i _ Try.underlying26 hi hz .i64 .i64 n n (by omega) (Int.le_refl _) (by rw [hb]; omega) (by omega)
  simp only [Int.toNat_natCast, hs] at hr
  exact hr

/-- The row of entries that a loop of stores has filled up to k. -/
def pairs (eb pb k : Nat) (i : Nat) : Value := if i < k * 2 then .pointer (some ⟨if i % 2 = 0 then eb else pb, i / 2, none⟩) else .pointer none
theorem pairs_step (eb pb k i : Nat) : (if i = k * 2 + 1 then Value.pointer (some ⟨pb, k, none⟩) else if i = k * 2 then .pointer (some ⟨eb, k, none⟩) else pairs eb pb k i) = pairs eb pb (k + 1) i := by
  unfold pairs
  by_cases h1 : i = k * 2 + 1
  · subst h1
    rw [if_pos rfl, if_pos (by omega), if_neg (by omega), show (k * 2 + 1) / 2 = k by omega]
  · rw [if_neg h1]
    by_cases h2 : i = k * 2
    · subst h2
      rw [if_pos rfl, if_pos (by omega), if_pos (by omega), show k * 2 / 2 = k by omega]
    · rw [if_neg h2]
      by_cases h3 : i < k * 2
      · have h4 : i < (k + 1) * 2 := by omega
        simp only [h3, h4, if_true]
      · have h4 : ¬ i < (k + 1) * 2 := by omega
        simp only [h3, h4, if_false]

theorem made_pairs (w : World) (n eb pb : Nat) : (w.alloc (.cells (madeCells #[.pointer none, .pointer none] (n * 2)) 31)).rowIs w.heap.size 31 (n * 2) (pairs eb pb 0) := by
  have h := World.rowIs_alloc w (madeCells #[Value.pointer none, Value.pointer none] (n * 2)) 31 (pairs eb pb 0) (fun i hi => by
    rw [size_madeCells] at hi
    have hp : pairs eb pb 0 i = .pointer none := by simp [pairs]
    rw [hp]
    rcases Nat.mod_two_eq_zero_or_one i with h2 | h2 <;> simp [madeCells, hi, h2])
  rwa [size_madeCells] at h

set_option maxHeartbeats 2000000 in
theorem priceList_any (p q : Option Addr) (n cap cap' : Nat) (ss ts : Nat → ByteArray) (w : World) (hA : Str p n ss w.heap.size w) (hB : Str q n ts w.heap.size w) (hn : n ≤ 1048576) :
    Calls Try.prog 8 #[.slice p n cap, .slice q n cap'] w fun e w' => e = .returned (.slice (some ⟨w.heap.size + 1 + 1, 0, none⟩) n n) ∧
      w'.rowIs w.heap.size 9 n (fun i => .string (ss i)) ∧ w'.rowIs (w.heap.size + 1) 9 n (fun i => .string (ts i)) ∧ w'.rowIs (w.heap.size + 1 + 1) 31 (n * 2) (pairs w.heap.size (w.heap.size + 1) n) ∧ w'.heap.size = w.heap.size + 1 + 1 + 1 ∧ Below w.heap.size w w' := by
  have mixed : Try.prog.follows .mixedOrders = true := by kernel_rfl
  have HA : Hid (Str p n ss w.heap.size w) := hA
  have HB : Hid (Str q n ts w.heap.size w) := hB
  clear hA hB
  have hmk := run_make_row' (P := Try.prog) 22 9 (.string ByteArray.empty) 16 Try.underlying22 Try.info9 rfl .i64 .i64 n (by omega) (by omega)
  have hmp := make_prices n hn
  obtain ⟨B, hBs⟩ : ∃ B, w.heap.size = B := ⟨_, rfl⟩
  rw [hBs] at HA HB ⊢
  go_enter Try.func8, Try.ntmps8
  go_wp2
  go_loopg [8] n (fun kx s wr => ∃ k : Nat, s = .int .i64 k ∧ k ≤ n ∧ n - k ≤ kx ∧ wr.rowIs B 9 n (fill ss k) ∧ wr.rowIs (B + 1) 9 n (fill ts k) ∧ Hid (wr.heap.size = B + 1 + 1) ∧ Below B w wr)
  case atStart =>
    have r0 := World.rowIs_made w (.string ByteArray.empty) n 9
    have r1 := World.rowIs_made (w.alloc (.cells (madeCells #[.string ByteArray.empty] n) 9)) (.string ByteArray.empty) n 9
    rw [World.size_alloc, hBs] at r1
    rw [hBs] at r0
    exact ⟨0, rfl, Nat.zero_le _, Nat.le_refl _, (r0.alloc _).congr (fun i _ => (fill_zero ss i).symm), r1.congr (fun i _ => (fill_zero ts i).symm), (by show _ = _; rw [World.size_alloc, World.size_alloc, hBs]), ((Below.refl _ _).alloc (by omega) _).alloc (by rw [World.size_alloc]; omega) _⟩
  case round =>
    clear hmk
    obtain ⟨k, rfl, hk, hkx, hr1, hr2, HSz, hbl⟩ := hrel
    by_cases hlt : k < n
    · have hltz : (k : Int) < (n : Int) := by omega
      clear hmp
      obtain ⟨b, off, rfl, hb, hc⟩ := HA.out.resolve_left (by omega)
      obtain ⟨b2, off2, rfl, hb2, hc2⟩ := HB.out.resolve_left (by omega)
      have c0 : wr.cell? ⟨b, off + k, none⟩ = some (.string (ss k)) := (hbl.cell (p := ⟨b, off + k, none⟩) hb).trans (hc k hlt)
      have c1 : (wr.setCell ⟨B, k, none⟩ (.string (ss k))).cell? ⟨b2, off2 + k, none⟩ = some (.string (ts k)) := ((hbl.setCell (p := ⟨B, k, none⟩) (Nat.le_refl _) _).cell (p := ⟨b2, off2 + k, none⟩) hb2).trans (hc2 k hlt)
      have e1 : wr.cell? ⟨B, k, none⟩ = some (fill ss k k) := hr1.cell hlt
      have f1 : wr.frozen? ⟨B, k, none⟩ = false := hr1.frozen k
      have q2 := hr2.setOther (a := ⟨B, k, none⟩) (by show B + 1 ≠ B; omega) (.string (ss k))
      have e2 : (wr.setCell ⟨B, k, none⟩ (.string (ss k))).cell? ⟨B + 1, k, none⟩ = some (fill ts k k) := q2.cell hlt
      have f2 : (wr.setCell ⟨B, k, none⟩ (.string (ss k))).frozen? ⟨B + 1, k, none⟩ = false := q2.frozen k
      have R1 := ((hr1.set k (.string (ss k))).setOther (a := ⟨B + 1, k, none⟩) (by show B ≠ B + 1; omega) (.string (ts k))).congr (fun i _ => fill_step ss k i)
      have R2 := (q2.set k (.string (ts k))).congr (fun i _ => fill_step ts k i)
      have HS2 : Hid (((wr.setCell ⟨B, k, none⟩ (.string (ss k))).setCell ⟨B + 1, k, none⟩ (.string (ts k))).heap.size = B + 1 + 1) := by show _ = _; simp; exact HSz.out
      have hbl2 := (hbl.setCell (p := ⟨B, k, none⟩) (Nat.le_refl _) (.string (ss k))).setCell (p := ⟨B + 1, k, none⟩) (by show B ≤ B + 1; omega) (.string (ts k))
      clear hc hc2 q2 hr1 hr2 hbl
      go_wp2
      go_roundg (n - (k + 1))
      case measure => omega
      case rel => exact ⟨k + 1, by go_num, by omega, Nat.le_refl _, R1, R2, HS2, hbl2⟩
    · have hltz : ¬ (k : Int) < (n : Int) := by omega
      have hkn : Hid (k = n) := by show _ = _; omega
      have R1 : wr.rowIs B 9 n (fun i => .string (ss i)) := hr1.congr (fun i hi => by rw [hkn.out]; exact fill_full ss n i hi)
      have R2 : wr.rowIs (B + 1) 9 n (fun i => .string (ts i)) := hr2.congr (fun i hi => by rw [hkn.out]; exact fill_full ts n i hi)
      have hsz := HSz.out
      have R3 := made_pairs wr n B (B + 1)
      have R1a := R1.alloc (.cells (madeCells #[.pointer none, .pointer none] (n * 2)) 31)
      have R2a := R2.alloc (.cells (madeCells #[.pointer none, .pointer none] (n * 2)) 31)
      have S0 : Hid ((wr.alloc (.cells (madeCells #[.pointer none, .pointer none] (n * 2)) 31)).heap.size = B + 1 + 1 + 1) := by show _ = _; rw [World.size_alloc, hsz]
      have B0 := hbl.alloc (by omega) (.cells (madeCells #[.pointer none, .pointer none] (n * 2)) 31)
      rw [hsz] at R3
      clear hr1 hr2 HSz R1 R2 hbl
      go_wp2
      go_loopg [10] n (fun kx s wr => ∃ k : Nat, s = .int .i64 k ∧ k ≤ n ∧ n - k ≤ kx ∧ wr.rowIs B 9 n (fun i => .string (ss i)) ∧ wr.rowIs (B + 1) 9 n (fun i => .string (ts i)) ∧ wr.rowIs (B + 1 + 1) 31 (n * 2) (pairs B (B + 1) k) ∧ Hid (wr.heap.size = B + 1 + 1 + 1) ∧ Below B w wr)
      case atStart => exact ⟨0, rfl, Nat.zero_le _, Nat.le_refl _, R1a, R2a, R3, S0, B0⟩
      case round =>
        clear R1a R2a R3 S0 B0 hmp hsz
        obtain ⟨k2, rfl, hk2, hkx2, r1, r2, r3, HS3, hbl3⟩ := hrel
        by_cases hlt2 : k2 < n
        · have hlt2z : (k2 : Int) < (n : Int) := by omega
          have zk0 : (0 : Int) ≤ (k2 : Int) := by omega
          have tk : ((k2 : Int)).toNat = k2 := by omega
          have e1 := r3.cell (i := k2 * 2) (by omega)
          have e2 := r3.cell (i := k2 * 2 + 1) (by omega)
          have f1 := r3.frozen (k2 * 2)
          have f2 := r3.frozen (k2 * 2 + 1)
          generalize pairs B (B + 1) k2 (k2 * 2) = v1 at e1
          generalize pairs B (B + 1) k2 (k2 * 2 + 1) = v2 at e2
          have q3 : (((wr.setCell ⟨B + 1 + 1, k2 * 2, none⟩ (.pointer (some ⟨B, k2, none⟩))).setCell ⟨B + 1 + 1, k2 * 2 + 1, none⟩ (.pointer (some ⟨B + 1, k2, none⟩))).drew).rowIs (B + 1 + 1) 31 (n * 2) (pairs B (B + 1) (k2 + 1)) :=
            (((r3.set (k2 * 2) (.pointer (some ⟨B, k2, none⟩))).set (k2 * 2 + 1) (.pointer (some ⟨B + 1, k2, none⟩))).congr (fun i _ => pairs_step B (B + 1) k2 i)).drew
          have q1 : (((wr.setCell ⟨B + 1 + 1, k2 * 2, none⟩ (.pointer (some ⟨B, k2, none⟩))).setCell ⟨B + 1 + 1, k2 * 2 + 1, none⟩ (.pointer (some ⟨B + 1, k2, none⟩))).drew).rowIs B 9 n (fun i => .string (ss i)) :=
            ((r1.setOther (a := ⟨B + 1 + 1, k2 * 2, none⟩) (by show B ≠ B + 1 + 1; omega) _).setOther (a := ⟨B + 1 + 1, k2 * 2 + 1, none⟩) (by show B ≠ B + 1 + 1; omega) _).drew
          have q2 : (((wr.setCell ⟨B + 1 + 1, k2 * 2, none⟩ (.pointer (some ⟨B, k2, none⟩))).setCell ⟨B + 1 + 1, k2 * 2 + 1, none⟩ (.pointer (some ⟨B + 1, k2, none⟩))).drew).rowIs (B + 1) 9 n (fun i => .string (ts i)) :=
            ((r2.setOther (a := ⟨B + 1 + 1, k2 * 2, none⟩) (by show B + 1 ≠ B + 1 + 1; omega) _).setOther (a := ⟨B + 1 + 1, k2 * 2 + 1, none⟩) (by show B + 1 ≠ B + 1 + 1; omega) _).drew
          have q4 : Hid ((((wr.setCell ⟨B + 1 + 1, k2 * 2, none⟩ (.pointer (some ⟨B, k2, none⟩))).setCell ⟨B + 1 + 1, k2 * 2 + 1, none⟩ (.pointer (some ⟨B + 1, k2, none⟩))).drew).heap.size = B + 1 + 1 + 1) := by show _ = _; simp; exact HS3.out
          have q5 := ((hbl3.setCell (p := ⟨B + 1 + 1, k2 * 2, none⟩) (by show B ≤ B + 1 + 1; omega) (.pointer (some ⟨B, k2, none⟩))).setCell (p := ⟨B + 1 + 1, k2 * 2 + 1, none⟩) (by show B ≤ B + 1 + 1; omega) (.pointer (some ⟨B + 1, k2, none⟩))).drew
          clear r1 r2 r3 hbl3
          go_wp2_with fail
          go_big_region_o
          clear e1 e2 f1 f2
          go_wp2
          go_roundg (n - (k2 + 1))
          case measure => omega
          case rel => exact ⟨k2 + 1, by go_num, by omega, Nat.le_refl _, q1, q2, q3, q4, q5⟩
        · have hlt2z : ¬ (k2 : Int) < (n : Int) := by omega
          have hk2n : Hid (k2 = n) := by show _ = _; omega
          go_wp2
          go_ret
          rw [hk2n.out] at r3
          exact ⟨rfl, r1, r2, r3, HS3.out, hbl3⟩
end Go.Proofs.Qxb6614512a
