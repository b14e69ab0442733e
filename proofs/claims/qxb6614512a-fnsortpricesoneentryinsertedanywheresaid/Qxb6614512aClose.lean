/-
  The closure of sortPrices over strings.Compare; the sort of prices, from a row of entries that stand in their order.
-/
import Derived.Test.Qxb6614512aStable
import Derived.Lib.Bytealg
import Derived.Sort.Walk0
import Derived.Deep.QuietTactic
namespace Go.Proofs.Qxb6614512a
open Go.Shelf Go.RowKit Go.Lib Go.Sort

/-- What 'cmp' gives for the entries tagged x and y, their days being 'ss'. -/
def cfOf (ss : Nat → ByteArray) (x y : Nat) : Int := Lib.compareBytes (ss x).data.toList (ss y).data.toList
/-- x's day is earlier than y's. -/
def klOf (ss : Nat → ByteArray) (x y : Nat) : Bool := ltStr (ss x).data.toList (ss y).data.toList

theorem compare_lt : ∀ (a b : List UInt8), decide (Lib.compareBytes a b < 0) = ltStr a b
  | [], [] => by simp [Lib.compareBytes, ltStr]
  | [], _ :: _ => by simp [Lib.compareBytes, ltStr]
  | _ :: _, [] => by simp [Lib.compareBytes, ltStr]
  | x :: a, y :: b => by
    have ih := compare_lt a b
    unfold Lib.compareBytes
    unfold ltStr at ih ⊢
    by_cases h1 : x < y
    · simp [h1, List.cons_lt_cons_iff]
    · by_cases h2 : y < x
      · simp only [h1, h2, if_true, if_false, List.cons_lt_cons_iff]
        have : x ≠ y := fun e => by subst e; exact h1 h2
        simp [this]
      · have : x = y := UInt8.le_antisymm (UInt8.not_lt.1 h2) (UInt8.not_lt.1 h1)
        subst this
        simp only [h1, if_false, ih, List.cons_lt_cons_iff]
        simp

theorem lt_cf (ss : Nat → ByteArray) : ltOf (cfOf ss) = klOf ss := by
  funext x y
  exact compare_lt _ _

theorem kl_swo (ss : Nat → ByteArray) : SWO (klOf ss) where
  irrefl _ := swo_ltStr.irrefl _
  trans _ _ _ h1 h2 := swo_ltStr.trans _ _ _ h1 h2
  ntrans _ _ _ h1 h2 := swo_ltStr.ntrans _ _ _ h1 h2

theorem grow_two (w : World) (o1 o2 : Obj) (n : Nat) : ((w.alloc o1).alloc o2).drewN n = grow (w.drewN n) #[o1, o2] := by
  rw [alloc_eq_grow, alloc_eq_grow, grow_grow]; rfl

theorem cmpString_any (a b : ByteArray) (w : World) : Calls Try.prog 16 #[.string a, .string b] w fun e w' => e = .returned (.int .i64 (Lib.compareBytes a.data.toList b.data.toList)) ∧ w' = w := by
  have h19 := @run_callFunc_extern Try.prog 19 _ Extern.BytealgCompare.compare Try.func19 (by kernel_rfl) (by kernel_rfl) (by kernel_rfl) (by kernel_rfl)
  have hc := fun w => Lib.run_compareString (P := Try.prog) a b w
  go_enter Try.func16, Try.ntmps16
  go_wp2
  go_ret
  exact ⟨rfl, rfl⟩

theorem compare_any (a b : ByteArray) (w : World) : Calls Try.prog 14 #[.string a, .string b] w fun e w' => e = .returned (.int .i64 (Lib.compareBytes a.data.toList b.data.toList)) ∧ w' = w := by
  go_enter Try.func14, Try.ntmps14
  go_wp2_with (go_at_call 16; refine (cmpString_any _ _ _).mono ?_; rintro e w' ⟨rfl, rfl⟩)
  go_ret
  exact ⟨rfl, rfl⟩

set_option maxHeartbeats 1000000 in
theorem closure_any (eb pb x y : Nat) (a b : ByteArray) (w : World) (hlt : eb < w.heap.size) (hx : w.cell? ⟨eb, x, none⟩ = some (.string a)) (hy : w.cell? ⟨eb, y, none⟩ = some (.string b)) :
    Calls Try.prog 13 #[.agg #[.pointer (some ⟨eb, x, none⟩), .pointer (some ⟨pb, x, none⟩)], .agg #[.pointer (some ⟨eb, y, none⟩), .pointer (some ⟨pb, y, none⟩)]] w fun e w' => e = .returned (.int .i64 (Lib.compareBytes a.data.toList b.data.toList)) ∧ ∃ q os', w' = grow (w.drewN q) os' := by
  have hx2 : ∀ o1 o2, ((w.alloc o1).alloc o2).cell? ⟨eb, x, none⟩ = some (.string a) := fun o1 o2 => by
    have k1 : eb < (w.alloc o1).heap.size := by simp; omega
    rw [World.cell?_alloc_lt _ _ ⟨eb, x, none⟩ k1, World.cell?_alloc_lt _ _ ⟨eb, x, none⟩ hlt]; exact hx
  have hy2 : ∀ o1 o2, ((w.alloc o1).alloc o2).cell? ⟨eb, y, none⟩ = some (.string b) := fun o1 o2 => by
    have k1 : eb < (w.alloc o1).heap.size := by simp; omega
    rw [World.cell?_alloc_lt _ _ ⟨eb, y, none⟩ k1, World.cell?_alloc_lt _ _ ⟨eb, y, none⟩ hlt]; exact hy
  go_enter Try.func13, Try.ntmps13
  go_wp2_with fail
  go_quiet (first | (go_at_call 14; exact Calls.quiet_of_same (compare_any _ _ _)))
  go_wp2
  go_ret
  exact ⟨rfl, nq, _, grow_two _ _ _ _⟩

/-- All blocks that were there are as they were, but for one; the rest of the world too, but for the count of draws. -/
structure Kept (b : Nat) (w w' : World) : Prop where
  os : w'.os = w.os
  tape : w'.tape = w.tape
  output : w'.output = w.output
  size : w.heap.size ≤ w'.heap.size
  block : ∀ k, k < w.heap.size → k ≠ b → w'.heap[k]? = w.heap[k]?

theorem Rw.kept {eb pb blk off N : Nat} {d : Array Nat} {w0 w : World} (S : Rw eb pb blk off N w0 d w) : Kept blk w0 w := by
  obtain ⟨n, os, rfl⟩ := S.sw
  refine ⟨rfl, rfl, rfl, ?_, fun k hk hne => ?_⟩
  · unfold sortWorldK; rw [size_grow, size_putRowK]; exact Nat.le_add_right _ _
  · unfold sortWorldK
    have hs : (putRowK (encT eb pb) 2 (Sort.ahead w0 n) blk off d).heap.size = w0.heap.size := size_putRowK ..
    show ((putRowK (encT eb pb) 2 (Sort.ahead w0 n) blk off d).heap ++ os)[k]? = _
    rw [Array.getElem?_append_left (by rw [hs]; exact hk)]
    show (w0.heap.modify blk _)[k]? = _
    rw [Array.getElem?_modify, if_neg (Ne.symm hne)]

theorem Kept.cell {b : Nat} {w w' : World} (h : Kept b w w') {p : Addr} (hp : p.block < w.heap.size) (hne : p.block ≠ b) : w'.cell? p = w.cell? p := World.cell?_of_block (w := w) (h.block p.block hp hne)
theorem Kept.frozen {b : Nat} {w w' : World} (h : Kept b w w') {p : Addr} (hp : p.block < w.heap.size) (hne : p.block ≠ b) : w'.frozen? p = w.frozen? p := World.frozen?_of_block (w := w) (h.block p.block hp hne)
theorem Kept.below {b B : Nat} {w w' : World} (h : Kept b w w') (hB : B ≤ b) (hs : B ≤ w.heap.size) : Below B w w' := ⟨h.os, h.tape, h.output, h.size, fun k hk => h.block k (by omega) (by omega)⟩

/-- The closure, in every world of the sort's. -/
theorem cmpOK (eb pb blk off N : Nat) (ss : Nat → ByteArray) (w0 : World) (heb : eb < w0.heap.size) (hne : eb ≠ blk) (hc : ∀ i, i < N → w0.cell? ⟨eb, i, none⟩ = some (.string (ss i))) : CmpOK eb pb blk off N (cfOf ss) w0 := by
  intro d W S x y hx hy
  have K := S.kept
  exact closure_any eb pb x y (ss x) (ss y) W (Nat.lt_of_lt_of_le heb K.size) ((K.cell (p := ⟨eb, x, none⟩) heb hne).trans (hc x hx)) ((K.cell (p := ⟨eb, y, none⟩) heb hne).trans (hc y hy))

/-- A row of N entries, entry i pointing to places x i of two rows. -/
def Ents (eb pb blk N : Nat) (f : Nat → Nat) (w : World) : Prop :=
  ∀ i, i < N → w.cell? ⟨blk, i * 2, none⟩ = some (.pointer (some ⟨eb, f i, none⟩)) ∧ w.cell? ⟨blk, i * 2 + 1, none⟩ = some (.pointer (some ⟨pb, f i, none⟩)) ∧ w.frozen? ⟨blk, i * 2, none⟩ = false ∧ w.frozen? ⟨blk, i * 2 + 1, none⟩ = false

/-- ZZsortPrices: the row of entries that stood in their order comes out as the one permutation that ascends by day, then by place. -/
theorem zzSort_ok (eb pb blk N cap : Nat) (ss : Nat → ByteArray) (w : World) (hN : N < 1099511627776) (hblk : blk < w.heap.size) (heb : eb < w.heap.size) (hne : eb ≠ blk)
    (hc : ∀ i, i < N → w.cell? ⟨eb, i, none⟩ = some (.string (ss i))) (hE : Ents eb pb blk N (fun i => i) w) :
    Calls Try.prog 9 #[.slice (some ⟨blk, 0, none⟩) N cap] w fun e w' => e = .returned (.tuple #[]) ∧ Kept blk w w' ∧ ∃ d : Array Nat, d.size = N ∧ (∀ i, i < N → d[i]! < N) ∧ PermIn 0 N (Array.range N) d ∧ SortedIn (M.tl (klOf ss)) 0 N d ∧ Ents eb pb blk N (fun i => d[i]!) w' := by
  have hid : ∀ i, i < N → (Array.range N)[i]! = i := fun i hi => by rw [getElem!_pos _ i (by simpa using hi)]; simp
  have hz : (Array.range N).size = N := by simp
  have hH : HoldsK (encT eb pb) 2 w blk 0 (Array.range N) := by
    intro t ht
    rw [size_flatK, hz] at ht
    rw [get_flatK _ _ _ t (by rw [hz]; exact ht)]
    have hi : t / 2 < N := by omega
    rw [hid _ hi]
    have h := hE (t / 2) hi
    rcases Nat.mod_two_eq_zero_or_one t with h2 | h2
    · have e : t / 2 * 2 = t := by omega
      rw [h2]
      rw [e] at h
      rw [Nat.zero_add]
      exact ⟨h.1, h.2.2.1⟩
    · have e : t / 2 * 2 + 1 = t := by omega
      rw [h2]
      rw [e] at h
      rw [Nat.zero_add]
      exact ⟨h.2.1, h.2.2.2⟩
  have R : RowK (encT eb pb) 2 w blk 0 (Array.range N) := ⟨fun _ => rfl, encT_one eb pb, hH, hblk⟩
  have S : Rw eb pb blk 0 N w (Array.range N) w := ⟨SWK.start hH, hz, ⟨_, R, hz⟩, fun i hi => by rw [hid i hi]; exact hi⟩
  refine (zzSort_any eb pb blk 0 N cap (cfOf ss) (by rw [lt_cf]; exact kl_swo ss) (Array.range N) w w (cmpOK eb pb blk 0 N ss w heb hne hc) S hid hN).mono ?_
  rintro e w' ⟨rfl, d, S', hp, hs⟩
  rw [lt_cf] at hs
  refine ⟨rfl, S'.kept, d, S'.size, S'.tg, hp, hs, fun i hi => ?_⟩
  have := S'.cells (i := i) hi rfl
  simpa using this

end Go.Proofs.Qxb6614512a
