/-
  The law's own walk: the sentinels in the world; ZZNotReachedIs by its answer; the loop over the three targets.
-/
import Derived.Test.Qxb6614198aDoorAsk
namespace Go.Proofs.Qxb6614198aDoor
open Go.RowKit

/-- The three sentinels: three variables, three different pointers to errors of errors.New's make. -/
structure Sent (a0 a1 a2 : Addr) (w : World) : Prop where
  c0 : w.cell? ⟨0, 0, none⟩ = some (.iface 71 (.pointer (some a0)))
  c1 : w.cell? ⟨1, 0, none⟩ = some (.iface 71 (.pointer (some a1)))
  c2 : w.cell? ⟨2, 0, none⟩ = some (.iface 71 (.pointer (some a2)))
  b0 : ∃ c t, w.heap[a0.block]? = some (.cells c t (0, 0))
  b1 : ∃ c t, w.heap[a1.block]? = some (.cells c t (0, 0))
  b2 : ∃ c t, w.heap[a2.block]? = some (.cells c t (0, 0))
  n01 : a0 ≠ a1
  n02 : a0 ≠ a2
  n12 : a1 ≠ a2

theorem lt_of_some {w : World} {k : Nat} {o : Obj} (h : w.heap[k]? = some o) : k < w.heap.size := by
  rcases Nat.lt_or_ge k w.heap.size with h1 | h1
  · exact h1
  · rw [Array.getElem?_eq_none h1] at h; cases h

theorem Sent.below {a0 a1 a2 : Addr} {w w' : World} (h : Sent a0 a1 a2 w) (hb : Below w.heap.size w w') : Sent a0 a1 a2 w' := by
  have k0 : 0 < w.heap.size := World.block_lt_of_cell? _ _ h.c0
  have k1 : 1 < w.heap.size := World.block_lt_of_cell? _ _ h.c1
  have k2 : 2 < w.heap.size := World.block_lt_of_cell? _ _ h.c2
  refine ⟨(hb.cell (p := ⟨0, 0, none⟩) k0).trans h.c0, (hb.cell (p := ⟨1, 0, none⟩) k1).trans h.c1, (hb.cell (p := ⟨2, 0, none⟩) k2).trans h.c2, ?_, ?_, ?_, h.n01, h.n02, h.n12⟩
  · obtain ⟨c, t, e⟩ := h.b0; exact ⟨c, t, (hb.block _ (lt_of_some e)).trans e⟩
  · obtain ⟨c, t, e⟩ := h.b1; exact ⟨c, t, (hb.block _ (lt_of_some e)).trans e⟩
  · obtain ⟨c, t, e⟩ := h.b2; exact ⟨c, t, (hb.block _ (lt_of_some e)).trans e⟩

/-- Which sentinel 1, 2, 3 name. -/
def adr (a0 a1 a2 : Addr) (k : Int) : Addr := if k = 1 then a0 else if k = 2 then a1 else a2

theorem Sent.adr_ne {a0 a1 a2 : Addr} {w : World} (h : Sent a0 a1 a2 w) {k t : Int} (hk : 1 ≤ k ∧ k ≤ 3) (ht : 1 ≤ t ∧ t ≤ 3) (hne : k ≠ t) : adr a0 a1 a2 k ≠ adr a0 a1 a2 t := by
  have e1 : k = 1 ∨ k = 2 ∨ k = 3 := by omega
  have e2 : t = 1 ∨ t = 2 ∨ t = 3 := by omega
  have n01 := h.n01; have n02 := h.n02; have n12 := h.n12
  rcases e1 with rfl | rfl | rfl <;> rcases e2 with rfl | rfl | rfl <;> first | exact absurd rfl hne | (simp [adr]; first | assumption | exact Ne.symm (by assumption))

theorem Sent.adr_block {a0 a1 a2 : Addr} {w : World} (h : Sent a0 a1 a2 w) (k : Int) : ∃ c t, w.heap[(adr a0 a1 a2 k).block]? = some (.cells c t (0, 0)) := by
  unfold adr
  split
  · exact h.b0
  · split
    · exact h.b1
    · exact h.b2

set_option maxHeartbeats 400000 in
theorem sentinel_1 (a0 a1 a2 : Addr) (w : World) (h : Sent a0 a1 a2 w) : Calls Tryd.prog 5 #[.int .i64 1] w fun e w' => e = .returned (.iface 71 (.pointer (some a0))) ∧ w' = w := by
  have c := h.c0
  clear h
  go_enter Tryd.func5, Tryd.ntmps5
  go_wp2
  go_ret
  exact ⟨rfl, rfl⟩
set_option maxHeartbeats 400000 in
theorem sentinel_2 (a0 a1 a2 : Addr) (w : World) (h : Sent a0 a1 a2 w) : Calls Tryd.prog 5 #[.int .i64 2] w fun e w' => e = .returned (.iface 71 (.pointer (some a1))) ∧ w' = w := by
  have c := h.c1
  clear h
  go_enter Tryd.func5, Tryd.ntmps5
  go_wp2
  go_ret
  exact ⟨rfl, rfl⟩
set_option maxHeartbeats 400000 in
theorem sentinel_3 (a0 a1 a2 : Addr) (w : World) (h : Sent a0 a1 a2 w) : Calls Tryd.prog 5 #[.int .i64 3] w fun e w' => e = .returned (.iface 71 (.pointer (some a2))) ∧ w' = w := by
  have c := h.c2
  clear h
  go_enter Tryd.func5, Tryd.ntmps5
  go_wp2
  go_ret
  exact ⟨rfl, rfl⟩
theorem sentinel_some (a0 a1 a2 : Addr) (k : Int) (w : World) (h : Sent a0 a1 a2 w) (hk : 1 ≤ k ∧ k ≤ 3) : Calls Tryd.prog 5 #[.int .i64 k] w fun e w' => e = .returned (.iface 71 (.pointer (some (adr a0 a1 a2 k)))) ∧ w' = w := by
  have e1 : k = 1 ∨ k = 2 ∨ k = 3 := by omega
  rcases e1 with rfl | rfl | rfl
  · exact sentinel_1 a0 a1 a2 w h
  · exact sentinel_2 a0 a1 a2 w h
  · exact sentinel_3 a0 a1 a2 w h
set_option maxHeartbeats 400000 in
theorem sentinel_none (k : Int) (w : World) (h1 : (k == 1) = false) (h2 : (k == 2) = false) (h3 : (k == 3) = false) : Calls Tryd.prog 5 #[.int .i64 k] w fun e w' => e = .returned .nilIface ∧ w' = w := by
  go_enter Tryd.func5, Tryd.ntmps5
  go_wp2
  go_ret
  exact ⟨rfl, rfl⟩

/-- ZZNotReachedIs at a target of 1, 2, 3: is it of the kind that was wrapped? -/
theorem ask_any (a0 a1 a2 : Addr) (uNil vNil nested : Bool) (u0 u1 u2 u3 v0 v1 v2 v3 kind t : Int) (w : World) (h : Sent a0 a1 a2 w) (ht : 1 ≤ t ∧ t ≤ 3) :
    Calls Tryd.prog 4 #[.bool uNil, .agg #[.int .u64 u0, .int .u64 u1, .int .u64 u2, .int .u64 u3], .bool vNil, .agg #[.int .u64 v0, .int .u64 v1, .int .u64 v2, .int .u64 v3], .int .i64 kind, .bool nested, .int .i64 t] w fun e w' => e = .returned (.bool (decide (kind = t))) ∧ Below w.heap.size w w' := by
  have s2 : ∀ W', Below w.heap.size w W' → Calls Tryd.prog 5 #[.int .i64 t] W' fun e w' => e = .returned (.iface 71 (.pointer (some (adr a0 a1 a2 t)))) ∧ w' = W' := fun W' hb => sentinel_some a0 a1 a2 t W' (h.below hb) ht
  by_cases hk : 1 ≤ kind ∧ kind ≤ 3
  · have s1 : ∀ W', Below w.heap.size w W' → Calls Tryd.prog 5 #[.int .i64 kind] W' fun e w' => e = .returned (.iface 71 (.pointer (some (adr a0 a1 a2 kind)))) ∧ w' = W' := fun W' hb => sentinel_some a0 a1 a2 kind W' (h.below hb) hk
    by_cases hkt : kind = t
    · subst hkt
      cases nested
      · exact ask_flat _ _ uNil vNil u0 u1 u2 u3 v0 v1 v2 v3 kind kind _ w s1 s2 (fun W' p _ hc => by rw [decide_eq_true rfl]; exact is_wrap_same p 0 _ W' hc)
      · exact ask_deep _ _ uNil vNil u0 u1 u2 u3 v0 v1 v2 v3 kind kind _ w s1 s2 (fun W' p q _ hc hc2 => by rw [decide_eq_true rfl]; exact is_deep_same p 0 q 0 _ W' hc hc2)
    · have hne := h.adr_ne hk ht hkt
      cases nested
      · exact ask_flat _ _ uNil vNil u0 u1 u2 u3 v0 v1 v2 v3 kind t _ w s1 s2 (fun W' p hb hc => by
          rw [decide_eq_false hkt]
          obtain ⟨ca, ta, ea⟩ := (h.below hb).adr_block kind
          obtain ⟨cb, tb, eb⟩ := (h.below hb).adr_block t
          exact is_wrap_other p 0 _ _ ca cb ta tb W' hc hne ea eb)
      · exact ask_deep _ _ uNil vNil u0 u1 u2 u3 v0 v1 v2 v3 kind t _ w s1 s2 (fun W' p q hb hc hc2 => by
          rw [decide_eq_false hkt]
          obtain ⟨ca, ta, ea⟩ := (h.below hb).adr_block kind
          obtain ⟨cb, tb, eb⟩ := (h.below hb).adr_block t
          exact is_deep_other p 0 q 0 _ _ ca cb ta tb W' hc hc2 hne ea eb)
  · have hkt : ¬ kind = t := by omega
    have s1 : ∀ W', Below w.heap.size w W' → Calls Tryd.prog 5 #[.int .i64 kind] W' fun e w' => e = .returned .nilIface ∧ w' = W' := fun W' _ => sentinel_none kind W' (beq_eq_false_iff_ne.2 (by omega)) (beq_eq_false_iff_ne.2 (by omega)) (beq_eq_false_iff_ne.2 (by omega))
    cases nested
    · exact ask_flat_nil _ uNil vNil u0 u1 u2 u3 v0 v1 v2 v3 kind t _ w s1 s2 (fun W' p _ hc => by rw [decide_eq_false hkt]; exact is_wrap_nil p 0 _ W' hc)
    · exact ask_deep_nil _ uNil vNil u0 u1 u2 u3 v0 v1 v2 v3 kind t _ w s1 s2 (fun W' p q _ hc hc2 => by rw [decide_eq_false hkt]; exact is_deep_nil p 0 q 0 _ W' hc hc2)

theorem ask_yes (a0 a1 a2 : Addr) (uNil vNil nested : Bool) (u0 u1 u2 u3 v0 v1 v2 v3 kind t : Int) (w : World) (h : Sent a0 a1 a2 w) (ht : 1 ≤ t ∧ t ≤ 3) (hkt : kind = t) :
    Calls Tryd.prog 4 #[.bool uNil, .agg #[.int .u64 u0, .int .u64 u1, .int .u64 u2, .int .u64 u3], .bool vNil, .agg #[.int .u64 v0, .int .u64 v1, .int .u64 v2, .int .u64 v3], .int .i64 kind, .bool nested, .int .i64 t] w fun e w' => e = .returned (.bool true) ∧ Below w.heap.size w w' := by
  have := ask_any a0 a1 a2 uNil vNil nested u0 u1 u2 u3 v0 v1 v2 v3 kind t w h ht
  rwa [decide_eq_true hkt] at this
theorem ask_no (a0 a1 a2 : Addr) (uNil vNil nested : Bool) (u0 u1 u2 u3 v0 v1 v2 v3 kind t : Int) (w : World) (h : Sent a0 a1 a2 w) (ht : 1 ≤ t ∧ t ≤ 3) (hkt : ¬ kind = t) :
    Calls Tryd.prog 4 #[.bool uNil, .agg #[.int .u64 u0, .int .u64 u1, .int .u64 u2, .int .u64 u3], .bool vNil, .agg #[.int .u64 v0, .int .u64 v1, .int .u64 v2, .int .u64 v3], .int .i64 kind, .bool nested, .int .i64 t] w fun e w' => e = .returned (.bool false) ∧ Below w.heap.size w w' := by
  have := ask_any a0 a1 a2 uNil vNil nested u0 u1 u2 u3 v0 v1 v2 v3 kind t w h ht
  rwa [decide_eq_false hkt] at this

theorem boxes {w wr : World} {c d : Array Value} (hb : Below (w.heap.size + 1 + 1) ((w.alloc (.cells c 23)).alloc (.cells d 23)) wr) (o : Nat) :
    wr.cell? ⟨w.heap.size, o, none⟩ = c[o]? ∧ wr.cell? ⟨w.heap.size + 1, o, none⟩ = d[o]? := by
  have k0 : w.heap.size < w.heap.size + 1 + 1 := by omega
  have k1 : w.heap.size + 1 < w.heap.size + 1 + 1 := by omega
  constructor
  · rw [hb.cell (p := ⟨w.heap.size, o, none⟩) k0, World.cell?_alloc_lt _ _ ⟨w.heap.size, o, none⟩ (by simp), World.cell?_alloc_at _ _ _ _ rfl]
  · rw [hb.cell (p := ⟨w.heap.size + 1, o, none⟩) k1, World.cell?_alloc_at _ _ _ _ (by simp)]
theorem boxes0 {w wr : World} {c0 c1 c2 c3 d0 d1 d2 d3 : Value} (hb : Below (w.heap.size + 1 + 1) ((w.alloc (.cells #[c0, c1, c2, c3] 23)).alloc (.cells #[d0, d1, d2, d3] 23)) wr) :
    wr.cell? ⟨w.heap.size, 0, none⟩ = some c0 ∧ wr.cell? ⟨w.heap.size + 1, 0, none⟩ = some d0 := boxes hb 0
theorem boxes1 {w wr : World} {c0 c1 c2 c3 d0 d1 d2 d3 : Value} (hb : Below (w.heap.size + 1 + 1) ((w.alloc (.cells #[c0, c1, c2, c3] 23)).alloc (.cells #[d0, d1, d2, d3] 23)) wr) :
    wr.cell? ⟨w.heap.size, 1, none⟩ = some c1 ∧ wr.cell? ⟨w.heap.size + 1, 1, none⟩ = some d1 := boxes hb 1
theorem boxes2 {w wr : World} {c0 c1 c2 c3 d0 d1 d2 d3 : Value} (hb : Below (w.heap.size + 1 + 1) ((w.alloc (.cells #[c0, c1, c2, c3] 23)).alloc (.cells #[d0, d1, d2, d3] 23)) wr) :
    wr.cell? ⟨w.heap.size, 2, none⟩ = some c2 ∧ wr.cell? ⟨w.heap.size + 1, 2, none⟩ = some d2 := boxes hb 2
theorem boxes3 {w wr : World} {c0 c1 c2 c3 d0 d1 d2 d3 : Value} (hb : Below (w.heap.size + 1 + 1) ((w.alloc (.cells #[c0, c1, c2, c3] 23)).alloc (.cells #[d0, d1, d2, d3] 23)) wr) :
    wr.cell? ⟨w.heap.size, 3, none⟩ = some c3 ∧ wr.cell? ⟨w.heap.size + 1, 3, none⟩ = some d3 := boxes hb 3

set_option maxHeartbeats 1000000 in
theorem law_any (a0 a1 a2 : Addr) (uNil vNil : Bool) (u0 u1 u2 u3 v0 v1 v2 v3 kind : Int) (w : World) (h : Sent a0 a1 a2 w) :
    Calls Tryd.prog 3 #[.bool uNil, .agg #[.int .u64 u0, .int .u64 u1, .int .u64 u2, .int .u64 u3], .bool vNil, .agg #[.int .u64 v0, .int .u64 v1, .int .u64 v2, .int .u64 v3], .int .i64 kind] w fun e w' => e = .returned (.bool true) ∧ Below w.heap.size w w' := by
  have HS : Hid (Sent a0 a1 a2 w) := h
  clear h
  go_enter Tryd.func3, Tryd.ntmps3
  go_wp2_with fail
  go_loopw [11] (fun i wr => ∃ k : Nat, 1 ≤ k ∧ k ≤ 4 ∧ i = .int .i64 k ∧ Below (w.heap.size + 1 + 1) ((w.alloc (.cells #[.int .u64 u0, .int .u64 u1, .int .u64 u2, .int .u64 u3] 23)).alloc (.cells #[.int .u64 v0, .int .u64 v1, .int .u64 v2, .int .u64 v3] 23)) wr) (fun i _ => 4 - (intOf i).toNat)
  case atStart => exact ⟨1, by omega, by omega, rfl, Below.refl _ _⟩
  case round =>
    obtain ⟨k, hk1, hk2, rfl, hb⟩ := hrel
    have hbw : Below w.heap.size w wr := (((Below.refl _ _).alloc (Nat.le_refl _) _).alloc (by simp) _).trans (hb.mono (by omega))
    have hz : w.heap.size + 1 + 1 ≤ wr.heap.size := by have := hb.size; simpa using this
    by_cases hk : k ≤ 3
    · obtain ⟨c0, e0⟩ := boxes0 hb
      obtain ⟨c1, e1⟩ := boxes1 hb
      obtain ⟨c2, e2⟩ := boxes2 hb
      obtain ⟨c3, e3⟩ := boxes3 hb
      by_cases hkt : kind = k
      · have hbq : (kind == (k : Int)) = true := beq_iff_eq.2 hkt
        have HK : Hid (kind = k) := hkt
        clear hkt
        go_wp2_with fail
        refine (ask_yes a0 a1 a2 uNil vNil false u0 u1 u2 u3 v0 v1 v2 v3 kind k wr (HS.out.below hbw) (by omega) HK.out).mono ?_
        rintro e w1 ⟨rfl, hb1⟩
        have hb2 := hb.trans (hb1.mono hz)
        have hbw1 := hbw.trans (hb1.mono (by omega))
        have hz1 : w.heap.size + 1 + 1 ≤ w1.heap.size := Nat.le_trans hz hb1.size
        obtain ⟨c0, e0⟩ := boxes0 hb2
        obtain ⟨c1, e1⟩ := boxes1 hb2
        obtain ⟨c2, e2⟩ := boxes2 hb2
        obtain ⟨c3, e3⟩ := boxes3 hb2
        go_wp2_with fail
        refine (ask_yes a0 a1 a2 uNil vNil true u0 u1 u2 u3 v0 v1 v2 v3 kind k w1 (HS.out.below hbw1) (by omega) HK.out).mono ?_
        rintro e w2 ⟨rfl, hb3⟩
        have hb4 := hb2.trans (hb3.mono hz1)
        go_wp2
        go_roundw
        case rel => exact ⟨k + 1, by omega, by omega, by go_num, hb4⟩
        case measure => simp [intOf]; omega
      · have hbq : (kind == (k : Int)) = false := beq_eq_false_iff_ne.2 hkt
        have HK : Hid (¬ kind = k) := hkt
        clear hkt
        go_wp2_with fail
        refine (ask_no a0 a1 a2 uNil vNil false u0 u1 u2 u3 v0 v1 v2 v3 kind k wr (HS.out.below hbw) (by omega) HK.out).mono ?_
        rintro e w1 ⟨rfl, hb1⟩
        have hb2 := hb.trans (hb1.mono hz)
        have hbw1 := hbw.trans (hb1.mono (by omega))
        have hz1 : w.heap.size + 1 + 1 ≤ w1.heap.size := Nat.le_trans hz hb1.size
        obtain ⟨c0, e0⟩ := boxes0 hb2
        obtain ⟨c1, e1⟩ := boxes1 hb2
        obtain ⟨c2, e2⟩ := boxes2 hb2
        obtain ⟨c3, e3⟩ := boxes3 hb2
        go_wp2_with fail
        refine (ask_no a0 a1 a2 uNil vNil true u0 u1 u2 u3 v0 v1 v2 v3 kind k w1 (HS.out.below hbw1) (by omega) HK.out).mono ?_
        rintro e w2 ⟨rfl, hb3⟩
        have hb4 := hb2.trans (hb3.mono hz1)
        go_wp2
        go_roundw
        case rel => exact ⟨k + 1, by omega, by omega, by go_num, hb4⟩
        case measure => simp [intOf]; omega
    · go_wp2
      go_ret
      exact ⟨rfl, hbw⟩

end Go.Proofs.Qxb6614198aDoor
