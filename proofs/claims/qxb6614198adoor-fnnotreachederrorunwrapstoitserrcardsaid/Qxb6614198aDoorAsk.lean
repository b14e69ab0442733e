/-
  ZZNotReachedIs: the walk, the callees by their contracts.
-/
import Derived.Test.Qxb6614198aDoorIs
import Derived.Test.Qxb6614198aDoorBig
import Derived.Deep.CutRange
import Derived.Deep.RegionWith
namespace Go.Proofs.Qxb6614198aDoor
open Go.RowKit

theorem bcell {W w1 : World} (hb : Below W.heap.size W w1) : (∀ b o, b < W.heap.size → w1.cell? ⟨b, o, none⟩ = W.cell? ⟨b, o, none⟩) ∧ (∀ b o, b < W.heap.size → w1.frozen? ⟨b, o, none⟩ = W.frozen? ⟨b, o, none⟩) :=
  ⟨fun b o h => hb.cell (p := ⟨b, o, none⟩) h, fun b o h => hb.frozen (p := ⟨b, o, none⟩) h⟩

theorem below_three {w W w1 w2 : World} (h0 : Below w.heap.size w W) (h1 : Below W.heap.size W w1) (h2 : Below w1.heap.size w1 w2) (o : Obj) : Below w.heap.size w (w2.alloc o) :=
  ((h0.trans (h1.mono h0.size)).trans (h2.mono (Nat.le_trans h0.size h1.size))).alloc (Nat.le_trans h0.size (Nat.le_trans h1.size h2.size)) o

theorem deep_cell {w w1 w2 : World} {o1 o2 : Obj} {c0 c1 c2 : Value} {T : TypeId}
    (h1 : Below (((w.alloc o1).alloc o2).alloc (.cells #[c0, c1, c2] T)).drew.heap.size (((w.alloc o1).alloc o2).alloc (.cells #[c0, c1, c2] T)).drew w1) (h2 : Below w1.heap.size w1 w2) (o : Obj) :
    (w2.alloc o).cell? ⟨w.heap.size + 1 + 1, 0 + 2, none⟩ = some c2 := by
  have z1 := h1.size
  have z2 := h2.size
  simp at z1
  have k1 : w.heap.size + 1 + 1 < w1.heap.size := by omega
  have k2 : w.heap.size + 1 + 1 < w2.heap.size := by omega
  rw [World.cell?_alloc_lt _ _ ⟨w.heap.size + 1 + 1, 0 + 2, none⟩ k2, h2.cell (p := ⟨w.heap.size + 1 + 1, 0 + 2, none⟩) k1, h1.cell (p := ⟨w.heap.size + 1 + 1, 0 + 2, none⟩) (by simp)]
  show (((w.alloc o1).alloc o2).alloc (.cells #[c0, c1, c2] T)).cell? ⟨w.heap.size + 1 + 1, 0 + 2, none⟩ = some c2
  rw [World.cell?_alloc_at _ _ _ _ (by simp)]
  rfl

set_option maxHeartbeats 1000000 in
theorem ask_flat_nil (tb : Addr) (uNil vNil : Bool) (u0 u1 u2 u3 v0 v1 v2 v3 kind t : Int) (b : Bool) (w : World)
    (hs1 : Hid (∀ W', Below w.heap.size w W' → Calls Tryd.prog 5 #[.int .i64 kind] W' fun e w' => e = .returned .nilIface ∧ w' = W'))
    (hs2 : Hid (∀ W', Below w.heap.size w W' → Calls Tryd.prog 5 #[.int .i64 t] W' fun e w' => e = .returned (.iface 71 (.pointer (some tb))) ∧ w' = W'))
    (his : Hid (∀ W' p, Below w.heap.size w W' → W'.cell? ⟨p, 0 + 2, none⟩ = some .nilIface → Calls Tryd.prog 7 #[.iface 29 (.pointer (some ⟨p, 0, none⟩)), .iface 71 (.pointer (some tb))] W' fun e w' => e = .returned (.bool b) ∧ w' = W')) :
    Calls Tryd.prog 4 #[.bool uNil, .agg #[.int .u64 u0, .int .u64 u1, .int .u64 u2, .int .u64 u3], .bool vNil, .agg #[.int .u64 v0, .int .u64 v1, .int .u64 v2, .int .u64 v3], .int .i64 kind, .bool false, .int .i64 t] w fun e w' => e = .returned (.bool b) ∧ Below w.heap.size w w' := by
  go_enter Tryd.func4, Tryd.ntmps4
  go_wp2_with fail
  refine (hs1.out _ (by repeat (first | exact Below.refl _ _ | refine Below.alloc ?_ (by simp <;> omega) _))).mono ?_
  rintro e w1 ⟨rfl, rfl⟩
  go_upto_region 4 with fail
  go_cut [16] from 17 to 37 (fun s wx => ∃ p : Nat, s = .pointer (some ⟨p, 0, none⟩) ∧ wx.cell? ⟨p, 0 + 2, none⟩ = some .nilIface ∧ Below w.heap.size w wx)
  case first =>
    go_region_with (go_at_call 6; refine (big_any _ _ _ _ _ _).mono ?_; rintro e w' ⟨p, rfl, hb⟩; obtain ⟨hc, hf⟩ := bcell hb)
    all_goals (go_wp2_with fail; go_meet)
    all_goals
      rename_i w1 p1 hb1 hc1 hf1
      exact ⟨_, rfl, by simp, below_three (Below.drew (by repeat (first | exact Below.refl _ _ | refine Below.alloc ?_ (by simp <;> omega) _))) hb1 hb _⟩
  case rest =>
    obtain ⟨p, rfl, hcell, hb⟩ := hcut
    go_wp2_with fail
    refine (hs2.out _ hb).mono ?_
    rintro e w1 ⟨rfl, rfl⟩
    go_wp2_with fail
    refine (his.out _ p hb hcell).mono ?_
    rintro e w1 ⟨rfl, rfl⟩
    go_wp2
    go_ret
    exact ⟨rfl, hb⟩

set_option maxHeartbeats 1000000 in
theorem ask_flat (a tb : Addr) (uNil vNil : Bool) (u0 u1 u2 u3 v0 v1 v2 v3 kind t : Int) (b : Bool) (w : World)
    (hs1 : Hid (∀ W', Below w.heap.size w W' → Calls Tryd.prog 5 #[.int .i64 kind] W' fun e w' => e = .returned (.iface 71 (.pointer (some a))) ∧ w' = W'))
    (hs2 : Hid (∀ W', Below w.heap.size w W' → Calls Tryd.prog 5 #[.int .i64 t] W' fun e w' => e = .returned (.iface 71 (.pointer (some tb))) ∧ w' = W'))
    (his : Hid (∀ W' p, Below w.heap.size w W' → W'.cell? ⟨p, 0 + 2, none⟩ = some (.iface 71 (.pointer (some a))) → Calls Tryd.prog 7 #[.iface 29 (.pointer (some ⟨p, 0, none⟩)), .iface 71 (.pointer (some tb))] W' fun e w' => e = .returned (.bool b) ∧ w' = W')) :
    Calls Tryd.prog 4 #[.bool uNil, .agg #[.int .u64 u0, .int .u64 u1, .int .u64 u2, .int .u64 u3], .bool vNil, .agg #[.int .u64 v0, .int .u64 v1, .int .u64 v2, .int .u64 v3], .int .i64 kind, .bool false, .int .i64 t] w fun e w' => e = .returned (.bool b) ∧ Below w.heap.size w w' := by
  go_enter Tryd.func4, Tryd.ntmps4
  go_wp2_with fail
  refine (hs1.out _ (by repeat (first | exact Below.refl _ _ | refine Below.alloc ?_ (by simp <;> omega) _))).mono ?_
  rintro e w1 ⟨rfl, rfl⟩
  go_upto_region 4 with fail
  go_cut [16] from 17 to 37 (fun s wx => ∃ p : Nat, s = .pointer (some ⟨p, 0, none⟩) ∧ wx.cell? ⟨p, 0 + 2, none⟩ = some (.iface 71 (.pointer (some a))) ∧ Below w.heap.size w wx)
  case first =>
    go_region_with (go_at_call 6; refine (big_any _ _ _ _ _ _).mono ?_; rintro e w' ⟨p, rfl, hb⟩; obtain ⟨hc, hf⟩ := bcell hb)
    all_goals (go_wp2_with fail; go_meet)
    all_goals
      rename_i w1 p1 hb1 hc1 hf1
      exact ⟨_, rfl, by simp, below_three (Below.drew (by repeat (first | exact Below.refl _ _ | refine Below.alloc ?_ (by simp <;> omega) _))) hb1 hb _⟩
  case rest =>
    obtain ⟨p, rfl, hcell, hb⟩ := hcut
    go_wp2_with fail
    refine (hs2.out _ hb).mono ?_
    rintro e w1 ⟨rfl, rfl⟩
    go_wp2_with fail
    refine (his.out _ p hb hcell).mono ?_
    rintro e w1 ⟨rfl, rfl⟩
    go_wp2
    go_ret
    exact ⟨rfl, hb⟩

set_option maxHeartbeats 1000000 in
theorem ask_deep_nil (tb : Addr) (uNil vNil : Bool) (u0 u1 u2 u3 v0 v1 v2 v3 kind t : Int) (b : Bool) (w : World)
    (hs1 : Hid (∀ W', Below w.heap.size w W' → Calls Tryd.prog 5 #[.int .i64 kind] W' fun e w' => e = .returned .nilIface ∧ w' = W'))
    (hs2 : Hid (∀ W', Below w.heap.size w W' → Calls Tryd.prog 5 #[.int .i64 t] W' fun e w' => e = .returned (.iface 71 (.pointer (some tb))) ∧ w' = W'))
    (his : Hid (∀ W' p q, Below w.heap.size w W' → W'.cell? ⟨p, 0 + 2, none⟩ = some (.iface 29 (.pointer (some ⟨q, 0, none⟩))) → W'.cell? ⟨q, 0 + 2, none⟩ = some .nilIface → Calls Tryd.prog 7 #[.iface 29 (.pointer (some ⟨p, 0, none⟩)), .iface 71 (.pointer (some tb))] W' fun e w' => e = .returned (.bool b) ∧ w' = W')) :
    Calls Tryd.prog 4 #[.bool uNil, .agg #[.int .u64 u0, .int .u64 u1, .int .u64 u2, .int .u64 u3], .bool vNil, .agg #[.int .u64 v0, .int .u64 v1, .int .u64 v2, .int .u64 v3], .int .i64 kind, .bool true, .int .i64 t] w fun e w' => e = .returned (.bool b) ∧ Below w.heap.size w w' := by
  go_enter Tryd.func4, Tryd.ntmps4
  go_wp2_with fail
  refine (hs1.out _ (by repeat (first | exact Below.refl _ _ | refine Below.alloc ?_ (by simp <;> omega) _))).mono ?_
  rintro e w1 ⟨rfl, rfl⟩
  go_upto_region 4 with fail
  go_cut [16] from 17 to 37 (fun s wx => ∃ p : Nat, s = .pointer (some ⟨p, 0, none⟩) ∧ wx.cell? ⟨p, 0 + 2, none⟩ = some (.iface 29 (.pointer (some ⟨w.heap.size + 1 + 1, 0, none⟩))) ∧ wx.cell? ⟨w.heap.size + 1 + 1, 0 + 2, none⟩ = some .nilIface ∧ Below w.heap.size w wx)
  case first =>
    go_region_with (go_at_call 6; refine (big_any _ _ _ _ _ _).mono ?_; rintro e w' ⟨p, rfl, hb⟩; obtain ⟨hc, hf⟩ := bcell hb)
    all_goals (go_wp2_with fail; go_meet)
    all_goals
      rename_i w1 p1 hb1 hc1 hf1
      exact ⟨_, rfl, by simp, deep_cell hb1 hb _, below_three (Below.drew (by repeat (first | exact Below.refl _ _ | refine Below.alloc ?_ (by simp <;> omega) _))) hb1 hb _⟩
  case rest =>
    obtain ⟨p, rfl, hcell, hcell2, hb⟩ := hcut
    go_wp2_with fail
    refine (hs2.out _ hb).mono ?_
    rintro e w1 ⟨rfl, rfl⟩
    go_wp2_with fail
    refine (his.out _ p _ hb hcell hcell2).mono ?_
    rintro e w1 ⟨rfl, rfl⟩
    go_wp2
    go_ret
    exact ⟨rfl, hb⟩

set_option maxHeartbeats 1000000 in
theorem ask_deep (a tb : Addr) (uNil vNil : Bool) (u0 u1 u2 u3 v0 v1 v2 v3 kind t : Int) (b : Bool) (w : World)
    (hs1 : Hid (∀ W', Below w.heap.size w W' → Calls Tryd.prog 5 #[.int .i64 kind] W' fun e w' => e = .returned (.iface 71 (.pointer (some a))) ∧ w' = W'))
    (hs2 : Hid (∀ W', Below w.heap.size w W' → Calls Tryd.prog 5 #[.int .i64 t] W' fun e w' => e = .returned (.iface 71 (.pointer (some tb))) ∧ w' = W'))
    (his : Hid (∀ W' p q, Below w.heap.size w W' → W'.cell? ⟨p, 0 + 2, none⟩ = some (.iface 29 (.pointer (some ⟨q, 0, none⟩))) → W'.cell? ⟨q, 0 + 2, none⟩ = some (.iface 71 (.pointer (some a))) → Calls Tryd.prog 7 #[.iface 29 (.pointer (some ⟨p, 0, none⟩)), .iface 71 (.pointer (some tb))] W' fun e w' => e = .returned (.bool b) ∧ w' = W')) :
    Calls Tryd.prog 4 #[.bool uNil, .agg #[.int .u64 u0, .int .u64 u1, .int .u64 u2, .int .u64 u3], .bool vNil, .agg #[.int .u64 v0, .int .u64 v1, .int .u64 v2, .int .u64 v3], .int .i64 kind, .bool true, .int .i64 t] w fun e w' => e = .returned (.bool b) ∧ Below w.heap.size w w' := by
  go_enter Tryd.func4, Tryd.ntmps4
  go_wp2_with fail
  refine (hs1.out _ (by repeat (first | exact Below.refl _ _ | refine Below.alloc ?_ (by simp <;> omega) _))).mono ?_
  rintro e w1 ⟨rfl, rfl⟩
  go_upto_region 4 with fail
  go_cut [16] from 17 to 37 (fun s wx => ∃ p : Nat, s = .pointer (some ⟨p, 0, none⟩) ∧ wx.cell? ⟨p, 0 + 2, none⟩ = some (.iface 29 (.pointer (some ⟨w.heap.size + 1 + 1, 0, none⟩))) ∧ wx.cell? ⟨w.heap.size + 1 + 1, 0 + 2, none⟩ = some (.iface 71 (.pointer (some a))) ∧ Below w.heap.size w wx)
  case first =>
    go_region_with (go_at_call 6; refine (big_any _ _ _ _ _ _).mono ?_; rintro e w' ⟨p, rfl, hb⟩; obtain ⟨hc, hf⟩ := bcell hb)
    all_goals (go_wp2_with fail; go_meet)
    all_goals
      rename_i w1 p1 hb1 hc1 hf1
      exact ⟨_, rfl, by simp, deep_cell hb1 hb _, below_three (Below.drew (by repeat (first | exact Below.refl _ _ | refine Below.alloc ?_ (by simp <;> omega) _))) hb1 hb _⟩
  case rest =>
    obtain ⟨p, rfl, hcell, hcell2, hb⟩ := hcut
    go_wp2_with fail
    refine (hs2.out _ hb).mono ?_
    rintro e w1 ⟨rfl, rfl⟩
    go_wp2_with fail
    refine (his.out _ p _ hb hcell hcell2).mono ?_
    rintro e w1 ⟨rfl, rfl⟩
    go_wp2
    go_ret
    exact ⟨rfl, hb⟩
end Go.Proofs.Qxb6614198aDoor
