/-
  What the two laws share: an argument, its clone; a list of prices made and sorted; the three blocks of each carried along.
-/
import Derived.Test.Qxb6614512aBytes
import Derived.Test.Qxb6614512aMath5
namespace Go.Proofs.Qxb6614512a
open Go.Shelf Go.RowKit Go.Lib Go.Sort

/-- What a law comes to. -/
def LawPost (w : World) (e : Ending) (w' : World) : Prop := e = .returned (.bool true) ∧ Below w.heap.size w w'

/-- A slice of strings that came in: nil; or empty, wherever it lies; or a row of cells in a block below B. -/
def Arg (p : Option Addr) (n cap : Nat) (ss : Nat → ByteArray) (B : Nat) (w : World) : Prop :=
  (p = none ∧ n = 0 ∧ cap = 0) ∨ (∃ a, p = some a ∧ n = 0) ∨ ∃ b off, p = some ⟨b, off, none⟩ ∧ b < B ∧ ∀ i, i < n → w.cell? ⟨b, off + i, none⟩ = some (.string (ss i))

theorem Arg.str {p : Option Addr} {n cap B : Nat} {ss : Nat → ByteArray} {w : World} (h : Arg p n cap ss B w) : Str p n ss B w := by
  rcases h with ⟨_, h, _⟩ | ⟨_, _, h⟩ | h
  · exact Or.inl h
  · exact Or.inl h
  · exact Or.inr h
theorem Arg.below {p : Option Addr} {n cap B : Nat} {ss : Nat → ByteArray} {w w' : World} (h : Arg p n cap ss B w) (hb : Below B w w') : Arg p n cap ss B w' := by
  rcases h with h | h | ⟨b, off, rfl, hlt, hc⟩
  · exact Or.inl h
  · exact Or.inr (Or.inl h)
  · exact Or.inr (Or.inr ⟨b, off, rfl, hlt, fun i hi => (hb.cell (p := ⟨b, off + i, none⟩) hlt).trans (hc i hi)⟩)
theorem Str.below {p : Option Addr} {n B : Nat} {ss : Nat → ByteArray} {w w' : World} (h : Str p n ss B w) (hb : Below B w w') : Str p n ss B w' := by
  rcases h with h | ⟨b, off, rfl, hlt, hc⟩
  · exact Or.inl h
  · exact Or.inr ⟨b, off, rfl, hlt, fun i hi => (hb.cell (p := ⟨b, off + i, none⟩) hlt).trans (hc i hi)⟩
theorem Str.mono {p : Option Addr} {n B B' : Nat} {ss : Nat → ByteArray} {w : World} (h : Str p n ss B w) (hB : B ≤ B') : Str p n ss B' w := by
  rcases h with h | ⟨b, off, rfl, hlt, hc⟩
  · exact Or.inl h
  · exact Or.inr ⟨b, off, rfl, Nat.lt_of_lt_of_le hlt hB, hc⟩
theorem Str.of_row {b n : Nat} {ss : Nat → ByteArray} {w : World} (h : w.rowIs b 9 n (fun i => .string (ss i))) : Str (some ⟨b, 0, none⟩) n ss w.heap.size w :=
  Or.inr ⟨b, 0, rfl, h.lt, fun i hi => by rw [Nat.zero_add]; exact h.cell hi⟩

set_option maxHeartbeats 1000000 in
theorem clone_zero (a : Addr) (cap : Nat) (w : World) : Calls Try.prog 7 #[.slice (some a) 0 cap] w fun e w' => e = .returned (.slice (some ⟨w.heap.size, 0, none⟩) 0 0) ∧ Below w.heap.size w w' := by
  have hq := Try.eqNil
  have hmk : ∀ w, (Instr.makeSlice 22 (.int .i64 0) (.int .i64 0)).run Try.prog w = .ok (.slice (some ⟨w.heap.size, 0, none⟩) 0 0) (w.alloc (.cells #[] 9)) := fun _ => by kernel_rfl
  go_enter Try.func7, Try.ntmps7
  go_wp2
  refine wp_loop_rounds 1 ?_
  rw [rounds_succ]
  go_wp2
  go_ret
  exact ⟨rfl, (Below.refl _ _).alloc (Nat.le_refl _) _⟩

/-- cloneStrings, at whatever slice. -/
theorem clone_any (p : Option Addr) (n cap : Nat) (ss : Nat → ByteArray) (w : World) (h : Arg p n cap ss w.heap.size w) (hn : n ≤ 1048576) :
    Calls Try.prog 7 #[.slice p n cap] w fun e w' => ∃ q cap', e = .returned (.slice q n cap') ∧ Str q n ss w'.heap.size w' ∧ Below w.heap.size w w' := by
  rcases h with ⟨rfl, rfl, rfl⟩ | ⟨a, rfl, rfl⟩ | ⟨b, off, rfl, hlt, hc⟩
  · refine (clone_nil w).mono ?_
    rintro e w' ⟨rfl, rfl⟩
    exact ⟨none, 0, rfl, Or.inl rfl, Below.refl _ _⟩
  · refine (clone_zero a cap w).mono ?_
    rintro e w' ⟨rfl, hb⟩
    exact ⟨_, _, rfl, Or.inl rfl, hb⟩
  · refine (clone_some b off n cap ss w hlt hc hn).mono ?_
    rintro e w' ⟨rfl, hr, hb⟩
    exact ⟨_, _, rfl, Str.of_row hr, hb⟩

/-- A list of prices as priceList has made it: three blocks, from B on. -/
structure Tri (B n : Nat) (ss ts : Nat → ByteArray) (w : World) : Prop where
  e : w.rowIs B 9 n (fun i => .string (ss i))
  p : w.rowIs (B + 1) 9 n (fun i => .string (ts i))
  k : w.rowIs (B + 1 + 1) 31 (n * 2) (pairs B (B + 1) n)

/-- .. sorted: entry i is the one tagged d[i]. -/
structure TriV (B n : Nat) (ss ts : Nat → ByteArray) (d : Array Nat) (w : World) : Prop where
  e : w.rowIs B 9 n (fun i => .string (ss i))
  p : w.rowIs (B + 1) 9 n (fun i => .string (ts i))
  lt : B + 1 + 1 < w.heap.size
  k : Ents B (B + 1) (B + 1 + 1) n (fun i => d[i]!) w
  t : ∀ i, i < n → d[i]! < n

theorem Tri.below {B n : Nat} {ss ts : Nat → ByteArray} {w w' : World} (h : Tri B n ss ts w) (hb : Below w.heap.size w w') : Tri B n ss ts w' :=
  ⟨h.e.of_block (hb.block _ h.e.lt), h.p.of_block (hb.block _ h.p.lt), h.k.of_block (hb.block _ h.k.lt)⟩
theorem Tri.kept {B n b : Nat} {ss ts : Nat → ByteArray} {w w' : World} (h : Tri B n ss ts w) (K : Kept b w w') (h0 : B ≠ b) (h1 : B + 1 ≠ b) (h2 : B + 1 + 1 ≠ b) : Tri B n ss ts w' :=
  ⟨h.e.of_block (K.block _ h.e.lt h0), h.p.of_block (K.block _ h.p.lt h1), h.k.of_block (K.block _ h.k.lt h2)⟩
theorem TriV.kept {B n b : Nat} {ss ts : Nat → ByteArray} {d : Array Nat} {w w' : World} (h : TriV B n ss ts d w) (K : Kept b w w') (h0 : B ≠ b) (h1 : B + 1 ≠ b) (h2 : B + 1 + 1 ≠ b) : TriV B n ss ts d w' :=
  ⟨h.e.of_block (K.block _ h.e.lt h0), h.p.of_block (K.block _ h.p.lt h1), Nat.lt_of_lt_of_le h.lt K.size, fun i hi => by
    have := h.k i hi
    exact ⟨(K.cell (p := ⟨B + 1 + 1, i * 2, none⟩) h.lt h2).trans this.1, (K.cell (p := ⟨B + 1 + 1, i * 2 + 1, none⟩) h.lt h2).trans this.2.1, (K.frozen (p := ⟨B + 1 + 1, i * 2, none⟩) h.lt h2).trans this.2.2.1, (K.frozen (p := ⟨B + 1 + 1, i * 2 + 1, none⟩) h.lt h2).trans this.2.2.2⟩, h.t⟩

/-- Nothing has turned but the count of draws. -/
theorem TriV.drewN {B n : Nat} {ss ts : Nat → ByteArray} {d : Array Nat} {w : World} (h : TriV B n ss ts d w) (q : Nat) : TriV B n ss ts d (w.drewN q) := ⟨h.e, h.p, h.lt, h.k, h.t⟩

/-- Where '*list[i].Effective', '*list[i].Price' lie, and what they hold. -/
theorem TriV.at {B n : Nat} {ss ts : Nat → ByteArray} {d : Array Nat} {w : World} (h : TriV B n ss ts d w) {i x : Nat} (hi : i < n) (hx : d[i]! = x) :
    w.cell? ⟨B + 1 + 1, i * 2, none⟩ = some (.pointer (some ⟨B, x, none⟩)) ∧ w.cell? ⟨B + 1 + 1, i * 2 + 1, none⟩ = some (.pointer (some ⟨B + 1, x, none⟩)) ∧ w.cell? ⟨B, x, none⟩ = some (.string (ss x)) ∧ w.cell? ⟨B + 1, x, none⟩ = some (.string (ts x)) := by
  subst hx
  exact ⟨(h.k i hi).1, (h.k i hi).2.1, h.e.cell (h.t i hi), h.p.cell (h.t i hi)⟩

/-- The sort, over such a list. -/
theorem tri_sort (B n : Nat) (ss ts : Nat → ByteArray) (w : World) (h : Tri B n ss ts w) (hn : n ≤ 1048576) :
    Calls Try.prog 9 #[.slice (some ⟨B + 1 + 1, 0, none⟩) n n] w fun e w' => e = .returned (.tuple #[]) ∧ Kept (B + 1 + 1) w w' ∧ ∃ d : Array Nat, d.size = n ∧ PermIn 0 n (Array.range n) d ∧ SortedIn (M.tl (klOf ss)) 0 n d ∧ TriV B n ss ts d w' := by
  refine (zzSort_ok B (B + 1) (B + 1 + 1) n n ss w (by omega) h.k.lt h.e.lt (by omega) (fun i hi => h.e.cell hi) (fun i hi => ?_)).mono ?_
  · have h0 := h.k.cell (i := i * 2) (by omega)
    have h1 := h.k.cell (i := i * 2 + 1) (by omega)
    refine ⟨?_, ?_, h.k.frozen _, h.k.frozen _⟩
    · rw [h0]; unfold pairs; rw [if_pos (by omega), if_pos (by omega), show i * 2 / 2 = i by omega]
    · rw [h1]; unfold pairs; rw [if_pos (by omega), if_neg (by omega), show (i * 2 + 1) / 2 = i by omega]
  · rintro e w' ⟨rfl, K, d, hz, ht, hp, hs, hE⟩
    exact ⟨rfl, K, d, hz, hp, hs, h.e.of_block (K.block _ h.e.lt (by omega)), h.p.of_block (K.block _ h.p.lt (by omega)), Nat.lt_of_lt_of_le h.k.lt K.size, hE, ht⟩

theorem Arg.next {p : Option Addr} {n cap : Nat} {ss : Nat → ByteArray} {w w' : World} (h : Arg p n cap ss w.heap.size w) (hb : Below w.heap.size w w') : Arg p n cap ss w'.heap.size w' := by
  rcases h.below hb with h | h | ⟨b, off, rfl, hlt, hc⟩
  · exact Or.inl h
  · exact Or.inr (Or.inl h)
  · exact Or.inr (Or.inr ⟨b, off, rfl, Nat.lt_of_lt_of_le hlt hb.size, hc⟩)
theorem Str.next {p : Option Addr} {n : Nat} {ss : Nat → ByteArray} {w w' : World} (h : Str p n ss w.heap.size w) (hb : Below w.heap.size w w') : Str p n ss w'.heap.size w' := (h.below hb).mono hb.size

theorem bl_eq (a b : ByteArray) : Op.bytesLess a.toList b.toList = ltStr a.data.toList b.data.toList := by
  rw [bytesLess_eq, Lib.toList_data, Lib.toList_data]
  rfl

theorem lawPost_early {w : World} {e : Ending} (h : e = .returned (.bool true)) : LawPost w e w := ⟨h, Below.refl _ _⟩

end Go.Proofs.Qxb6614512a
