/-
  The two 'zzBytes_..' functions: where they answer true, every length is at most 1048576.
-/
import Derived.Test.Qxb6614512aHelp
namespace Go.Proofs.Qxb6614512a
open Go.Shelf Go.RowKit Go.Lib Go.Sort

/-- The bound that the answer true bears of one slice. -/
def Small (n : Nat) (ss : Nat → ByteArray) : Prop := n ≤ 1048576 ∧ ∀ i, i < n → (ss i).size ≤ 1048576

/-- Some bool; where it is true, C holds; the world is as it was. -/
def BytesPost (C : Prop) (w : World) (e : Ending) (w' : World) : Prop := ∃ b : Bool, e = .returned (.bool b) ∧ w' = w ∧ (b = true → C)
theorem BytesPost.no {C : Prop} {w : World} {e : Ending} (h : e = .returned (.bool false)) : BytesPost C w e w := ⟨false, h, rfl, fun h => by cases h⟩
theorem BytesPost.yes {C : Prop} {w : World} {e : Ending} (h : e = .returned (.bool true)) (hC : C) : BytesPost C w e w := ⟨true, h, rfl, fun _ => hC⟩

set_option maxHeartbeats 4000000 in
theorem bytes4_any (pA : Option Addr) (nA cA : Nat) (sA : Nat → ByteArray) (pB : Option Addr) (nB cB : Nat) (sB : Nat → ByteArray) (pC : Option Addr) (nC cC : Nat) (sC : Nat → ByteArray) (pD : Option Addr) (nD cD : Nat) (sD : Nat → ByteArray)   (B : Nat) (w : World) (hSA : Hid (Str pA nA sA B w)) (hnA : nA ≤ 9223372036854775807) (hzA : Hid (∀ i, i < nA → (sA i).size ≤ 9223372036854775807)) (hSB : Hid (Str pB nB sB B w)) (hnB : nB ≤ 9223372036854775807) (hzB : Hid (∀ i, i < nB → (sB i).size ≤ 9223372036854775807)) (hSC : Hid (Str pC nC sC B w)) (hnC : nC ≤ 9223372036854775807) (hzC : Hid (∀ i, i < nC → (sC i).size ≤ 9223372036854775807)) (hSD : Hid (Str pD nD sD B w)) (hnD : nD ≤ 9223372036854775807) (hzD : Hid (∀ i, i < nD → (sD i).size ≤ 9223372036854775807))  :
    Calls Try.prog 5 #[.slice pA nA cA, .slice pB nB cB, .slice pC nC cC, .slice pD nD cD] w (BytesPost (Small nA sA ∧ Small nB sB ∧ Small nC sC ∧ Small nD sD) w) := by
  have t0 : (0 : Int) + nA = nA := by omega
  go_enter Try.func5, Try.ntmps5
  by_cases bA : nA ≤ 1048576
  case neg =>
    have bAz : (1048576 : Int) < (nA : Int) := by omega
    go_wp2; go_ret; exact BytesPost.no rfl
  case pos =>
  have bAz : ¬ (1048576 : Int) < (nA : Int) := by omega
  go_wp2
  go_loopg [9, 10] nA (fun kx s1 s wr => ∃ (k : Nat) (z : Int), s1 = .int .i64 z ∧ s = .int .i64 k ∧ k ≤ nA ∧ nA - k ≤ kx ∧ 0 ≤ z ∧ z ≤ 1048576 ∧ Hid (∀ i, i < k → (sA i).size ≤ 1048576) ∧ w = wr)
  case atStart => exact ⟨0, _, rfl, rfl, Nat.zero_le _, Nat.le_refl _, by omega, by omega, fun i hi => by omega, rfl⟩
  case round =>
  obtain ⟨kA, zA, rfl, rfl, hkA, hkxA, hz0A, hz1A, HFA, rfl⟩ := hrel
  by_cases lA : kA < nA
  case pos =>
    have lAz : (kA : Int) < (nA : Int) := by omega
    obtain ⟨b, off, rfl, hb, hc⟩ := hSA.out.resolve_left (by omega)
    have c0 := hc kA lA
    have u0 := hzA.out kA lA
    clear hc
    obtain ⟨sk, hsk⟩ : ∃ sk, sA kA = sk := ⟨_, rfl⟩
    rw [hsk] at c0 u0
    have HSK : Hid (sA kA = sk) := hsk
    clear hsk
    by_cases u1 : sk.size ≤ 1048576
    case neg =>
      have u1z : (1048576 : Int) < (sk.size : Int) := by omega
      go_wp2; go_ret; exact BytesPost.no rfl
    case pos =>
    have u1z : ¬ (1048576 : Int) < (sk.size : Int) := by omega
    by_cases u2 : zA + sk.size ≤ 1048576
    case neg =>
      have u2z : (1048576 : Int) < zA + (sk.size : Int) := by omega
      go_wp2; go_ret; exact BytesPost.no rfl
    case pos =>
    have u2z : ¬ (1048576 : Int) < zA + (sk.size : Int) := by omega
    go_wp2
    go_roundg (nA - (kA + 1))
    case measure => omega
    case rel =>
      exact ⟨kA + 1, zA + sk.size, by first | rfl | go_num, by go_num, by omega, Nat.le_refl _, by omega, by omega, fun i hi => by
        rcases Nat.lt_or_ge i kA with h | h
        · exact HFA.out i h
        · have : i = kA := by omega
          subst this; rw [HSK.out]; exact u1, rfl⟩
  case neg =>
  have lAz : ¬ (kA : Int) < (nA : Int) := by omega
  have HGA : Hid (Small nA sA) := ⟨bA, fun i hi => HFA.out i (by omega)⟩
  by_cases bB : nB ≤ 1048576
  case neg =>
    have bBz : (1048576 : Int) < (nB : Int) := by omega
    go_wp2; go_ret; exact BytesPost.no rfl
  case pos =>
  have bBz : ¬ (1048576 : Int) < (nB : Int) := by omega
  by_cases dB : zA + nB ≤ 1048576
  case neg =>
    have dBz : (1048576 : Int) < zA + (nB : Int) := by omega
    go_wp2; go_ret; exact BytesPost.no rfl
  case pos =>
  have dBz : ¬ (1048576 : Int) < zA + (nB : Int) := by omega
  go_wp2
  go_loopg [9, 11] nB (fun kx s1 s wr => ∃ (k : Nat) (z : Int), s1 = .int .i64 z ∧ s = .int .i64 k ∧ k ≤ nB ∧ nB - k ≤ kx ∧ 0 ≤ z ∧ z ≤ 1048576 ∧ Hid (∀ i, i < k → (sB i).size ≤ 1048576) ∧ w = wr)
  case atStart => exact ⟨0, _, rfl, rfl, Nat.zero_le _, Nat.le_refl _, by omega, by omega, fun i hi => by omega, rfl⟩
  case round =>
  obtain ⟨kB, zB, rfl, rfl, hkB, hkxB, hz0B, hz1B, HFB, rfl⟩ := hrel
  by_cases lB : kB < nB
  case pos =>
    have lBz : (kB : Int) < (nB : Int) := by omega
    obtain ⟨b, off, rfl, hb, hc⟩ := hSB.out.resolve_left (by omega)
    have c0 := hc kB lB
    have u0 := hzB.out kB lB
    clear hc
    obtain ⟨sk, hsk⟩ : ∃ sk, sB kB = sk := ⟨_, rfl⟩
    rw [hsk] at c0 u0
    have HSK : Hid (sB kB = sk) := hsk
    clear hsk
    by_cases u1 : sk.size ≤ 1048576
    case neg =>
      have u1z : (1048576 : Int) < (sk.size : Int) := by omega
      go_wp2; go_ret; exact BytesPost.no rfl
    case pos =>
    have u1z : ¬ (1048576 : Int) < (sk.size : Int) := by omega
    by_cases u2 : zB + sk.size ≤ 1048576
    case neg =>
      have u2z : (1048576 : Int) < zB + (sk.size : Int) := by omega
      go_wp2; go_ret; exact BytesPost.no rfl
    case pos =>
    have u2z : ¬ (1048576 : Int) < zB + (sk.size : Int) := by omega
    go_wp2
    go_roundg (nB - (kB + 1))
    case measure => omega
    case rel =>
      exact ⟨kB + 1, zB + sk.size, by first | rfl | go_num, by go_num, by omega, Nat.le_refl _, by omega, by omega, fun i hi => by
        rcases Nat.lt_or_ge i kB with h | h
        · exact HFB.out i h
        · have : i = kB := by omega
          subst this; rw [HSK.out]; exact u1, rfl⟩
  case neg =>
  have lBz : ¬ (kB : Int) < (nB : Int) := by omega
  have HGB : Hid (Small nB sB) := ⟨bB, fun i hi => HFB.out i (by omega)⟩
  by_cases bC : nC ≤ 1048576
  case neg =>
    have bCz : (1048576 : Int) < (nC : Int) := by omega
    go_wp2; go_ret; exact BytesPost.no rfl
  case pos =>
  have bCz : ¬ (1048576 : Int) < (nC : Int) := by omega
  by_cases dC : zB + nC ≤ 1048576
  case neg =>
    have dCz : (1048576 : Int) < zB + (nC : Int) := by omega
    go_wp2; go_ret; exact BytesPost.no rfl
  case pos =>
  have dCz : ¬ (1048576 : Int) < zB + (nC : Int) := by omega
  go_wp2
  go_loopg [9, 12] nC (fun kx s1 s wr => ∃ (k : Nat) (z : Int), s1 = .int .i64 z ∧ s = .int .i64 k ∧ k ≤ nC ∧ nC - k ≤ kx ∧ 0 ≤ z ∧ z ≤ 1048576 ∧ Hid (∀ i, i < k → (sC i).size ≤ 1048576) ∧ w = wr)
  case atStart => exact ⟨0, _, rfl, rfl, Nat.zero_le _, Nat.le_refl _, by omega, by omega, fun i hi => by omega, rfl⟩
  case round =>
  obtain ⟨kC, zC, rfl, rfl, hkC, hkxC, hz0C, hz1C, HFC, rfl⟩ := hrel
  by_cases lC : kC < nC
  case pos =>
    have lCz : (kC : Int) < (nC : Int) := by omega
    obtain ⟨b, off, rfl, hb, hc⟩ := hSC.out.resolve_left (by omega)
    have c0 := hc kC lC
    have u0 := hzC.out kC lC
    clear hc
    obtain ⟨sk, hsk⟩ : ∃ sk, sC kC = sk := ⟨_, rfl⟩
    rw [hsk] at c0 u0
    have HSK : Hid (sC kC = sk) := hsk
    clear hsk
    by_cases u1 : sk.size ≤ 1048576
    case neg =>
      have u1z : (1048576 : Int) < (sk.size : Int) := by omega
      go_wp2; go_ret; exact BytesPost.no rfl
    case pos =>
    have u1z : ¬ (1048576 : Int) < (sk.size : Int) := by omega
    by_cases u2 : zC + sk.size ≤ 1048576
    case neg =>
      have u2z : (1048576 : Int) < zC + (sk.size : Int) := by omega
      go_wp2; go_ret; exact BytesPost.no rfl
    case pos =>
    have u2z : ¬ (1048576 : Int) < zC + (sk.size : Int) := by omega
    go_wp2
    go_roundg (nC - (kC + 1))
    case measure => omega
    case rel =>
      exact ⟨kC + 1, zC + sk.size, by first | rfl | go_num, by go_num, by omega, Nat.le_refl _, by omega, by omega, fun i hi => by
        rcases Nat.lt_or_ge i kC with h | h
        · exact HFC.out i h
        · have : i = kC := by omega
          subst this; rw [HSK.out]; exact u1, rfl⟩
  case neg =>
  have lCz : ¬ (kC : Int) < (nC : Int) := by omega
  have HGC : Hid (Small nC sC) := ⟨bC, fun i hi => HFC.out i (by omega)⟩
  by_cases bD : nD ≤ 1048576
  case neg =>
    have bDz : (1048576 : Int) < (nD : Int) := by omega
    go_wp2; go_ret; exact BytesPost.no rfl
  case pos =>
  have bDz : ¬ (1048576 : Int) < (nD : Int) := by omega
  by_cases dD : zC + nD ≤ 1048576
  case neg =>
    have dDz : (1048576 : Int) < zC + (nD : Int) := by omega
    go_wp2; go_ret; exact BytesPost.no rfl
  case pos =>
  have dDz : ¬ (1048576 : Int) < zC + (nD : Int) := by omega
  go_wp2
  go_loopg [9, 13] nD (fun kx s1 s wr => ∃ (k : Nat) (z : Int), s1 = .int .i64 z ∧ s = .int .i64 k ∧ k ≤ nD ∧ nD - k ≤ kx ∧ 0 ≤ z ∧ z ≤ 1048576 ∧ Hid (∀ i, i < k → (sD i).size ≤ 1048576) ∧ w = wr)
  case atStart => exact ⟨0, _, rfl, rfl, Nat.zero_le _, Nat.le_refl _, by omega, by omega, fun i hi => by omega, rfl⟩
  case round =>
  obtain ⟨kD, zD, rfl, rfl, hkD, hkxD, hz0D, hz1D, HFD, rfl⟩ := hrel
  by_cases lD : kD < nD
  case pos =>
    have lDz : (kD : Int) < (nD : Int) := by omega
    obtain ⟨b, off, rfl, hb, hc⟩ := hSD.out.resolve_left (by omega)
    have c0 := hc kD lD
    have u0 := hzD.out kD lD
    clear hc
    obtain ⟨sk, hsk⟩ : ∃ sk, sD kD = sk := ⟨_, rfl⟩
    rw [hsk] at c0 u0
    have HSK : Hid (sD kD = sk) := hsk
    clear hsk
    by_cases u1 : sk.size ≤ 1048576
    case neg =>
      have u1z : (1048576 : Int) < (sk.size : Int) := by omega
      go_wp2; go_ret; exact BytesPost.no rfl
    case pos =>
    have u1z : ¬ (1048576 : Int) < (sk.size : Int) := by omega
    by_cases u2 : zD + sk.size ≤ 1048576
    case neg =>
      have u2z : (1048576 : Int) < zD + (sk.size : Int) := by omega
      go_wp2; go_ret; exact BytesPost.no rfl
    case pos =>
    have u2z : ¬ (1048576 : Int) < zD + (sk.size : Int) := by omega
    go_wp2
    go_roundg (nD - (kD + 1))
    case measure => omega
    case rel =>
      exact ⟨kD + 1, zD + sk.size, by first | rfl | go_num, by go_num, by omega, Nat.le_refl _, by omega, by omega, fun i hi => by
        rcases Nat.lt_or_ge i kD with h | h
        · exact HFD.out i h
        · have : i = kD := by omega
          subst this; rw [HSK.out]; exact u1, rfl⟩
  case neg =>
  have lDz : ¬ (kD : Int) < (nD : Int) := by omega
  have HGD : Hid (Small nD sD) := ⟨bD, fun i hi => HFD.out i (by omega)⟩
  go_wp2
  go_ret
  refine BytesPost.yes rfl ?_
  first | exact ⟨HGA.out, HGB.out, HGC.out, HGD.out⟩ | exact ⟨HGA.out, HGB.out⟩

set_option maxHeartbeats 4000000 in
theorem bytes2_any (pA : Option Addr) (nA cA : Nat) (sA : Nat → ByteArray) (pB : Option Addr) (nB cB : Nat) (sB : Nat → ByteArray) (at_ : Int) (xe : ByteArray) (xp : ByteArray) (B : Nat) (w : World) (hSA : Hid (Str pA nA sA B w)) (hnA : nA ≤ 9223372036854775807) (hzA : Hid (∀ i, i < nA → (sA i).size ≤ 9223372036854775807)) (hSB : Hid (Str pB nB sB B w)) (hnB : nB ≤ 9223372036854775807) (hzB : Hid (∀ i, i < nB → (sB i).size ≤ 9223372036854775807)) (hxe : xe.size ≤ 9223372036854775807) (hxp : xp.size ≤ 9223372036854775807) :
    Calls Try.prog 10 #[.slice pA nA cA, .slice pB nB cB, .int .i64 at_, .string xe, .string xp] w (BytesPost (Small nA sA ∧ Small nB sB ∧ xe.size ≤ 1048576 ∧ xp.size ≤ 1048576) w) := by
  have t0 : (0 : Int) + nA = nA := by omega
  go_enter Try.func10, Try.ntmps10
  by_cases bA : nA ≤ 1048576
  case neg =>
    have bAz : (1048576 : Int) < (nA : Int) := by omega
    go_wp2; go_ret; exact BytesPost.no rfl
  case pos =>
  have bAz : ¬ (1048576 : Int) < (nA : Int) := by omega
  go_wp2
  go_loopg [11, 12] nA (fun kx s1 s wr => ∃ (k : Nat) (z : Int), s1 = .int .i64 z ∧ s = .int .i64 k ∧ k ≤ nA ∧ nA - k ≤ kx ∧ 0 ≤ z ∧ z ≤ 1048576 ∧ Hid (∀ i, i < k → (sA i).size ≤ 1048576) ∧ w = wr)
  case atStart => exact ⟨0, _, rfl, rfl, Nat.zero_le _, Nat.le_refl _, by omega, by omega, fun i hi => by omega, rfl⟩
  case round =>
  obtain ⟨kA, zA, rfl, rfl, hkA, hkxA, hz0A, hz1A, HFA, rfl⟩ := hrel
  by_cases lA : kA < nA
  case pos =>
    have lAz : (kA : Int) < (nA : Int) := by omega
    obtain ⟨b, off, rfl, hb, hc⟩ := hSA.out.resolve_left (by omega)
    have c0 := hc kA lA
    have u0 := hzA.out kA lA
    clear hc
    obtain ⟨sk, hsk⟩ : ∃ sk, sA kA = sk := ⟨_, rfl⟩
    rw [hsk] at c0 u0
    have HSK : Hid (sA kA = sk) := hsk
    clear hsk
    by_cases u1 : sk.size ≤ 1048576
    case neg =>
      have u1z : (1048576 : Int) < (sk.size : Int) := by omega
      go_wp2; go_ret; exact BytesPost.no rfl
    case pos =>
    have u1z : ¬ (1048576 : Int) < (sk.size : Int) := by omega
    by_cases u2 : zA + sk.size ≤ 1048576
    case neg =>
      have u2z : (1048576 : Int) < zA + (sk.size : Int) := by omega
      go_wp2; go_ret; exact BytesPost.no rfl
    case pos =>
    have u2z : ¬ (1048576 : Int) < zA + (sk.size : Int) := by omega
    go_wp2
    go_roundg (nA - (kA + 1))
    case measure => omega
    case rel =>
      exact ⟨kA + 1, zA + sk.size, by first | rfl | go_num, by go_num, by omega, Nat.le_refl _, by omega, by omega, fun i hi => by
        rcases Nat.lt_or_ge i kA with h | h
        · exact HFA.out i h
        · have : i = kA := by omega
          subst this; rw [HSK.out]; exact u1, rfl⟩
  case neg =>
  have lAz : ¬ (kA : Int) < (nA : Int) := by omega
  have HGA : Hid (Small nA sA) := ⟨bA, fun i hi => HFA.out i (by omega)⟩
  by_cases bB : nB ≤ 1048576
  case neg =>
    have bBz : (1048576 : Int) < (nB : Int) := by omega
    go_wp2; go_ret; exact BytesPost.no rfl
  case pos =>
  have bBz : ¬ (1048576 : Int) < (nB : Int) := by omega
  by_cases dB : zA + nB ≤ 1048576
  case neg =>
    have dBz : (1048576 : Int) < zA + (nB : Int) := by omega
    go_wp2; go_ret; exact BytesPost.no rfl
  case pos =>
  have dBz : ¬ (1048576 : Int) < zA + (nB : Int) := by omega
  go_wp2
  go_loopg [11, 13] nB (fun kx s1 s wr => ∃ (k : Nat) (z : Int), s1 = .int .i64 z ∧ s = .int .i64 k ∧ k ≤ nB ∧ nB - k ≤ kx ∧ 0 ≤ z ∧ z ≤ 1048576 ∧ Hid (∀ i, i < k → (sB i).size ≤ 1048576) ∧ w = wr)
  case atStart => exact ⟨0, _, rfl, rfl, Nat.zero_le _, Nat.le_refl _, by omega, by omega, fun i hi => by omega, rfl⟩
  case round =>
  obtain ⟨kB, zB, rfl, rfl, hkB, hkxB, hz0B, hz1B, HFB, rfl⟩ := hrel
  by_cases lB : kB < nB
  case pos =>
    have lBz : (kB : Int) < (nB : Int) := by omega
    obtain ⟨b, off, rfl, hb, hc⟩ := hSB.out.resolve_left (by omega)
    have c0 := hc kB lB
    have u0 := hzB.out kB lB
    clear hc
    obtain ⟨sk, hsk⟩ : ∃ sk, sB kB = sk := ⟨_, rfl⟩
    rw [hsk] at c0 u0
    have HSK : Hid (sB kB = sk) := hsk
    clear hsk
    by_cases u1 : sk.size ≤ 1048576
    case neg =>
      have u1z : (1048576 : Int) < (sk.size : Int) := by omega
      go_wp2; go_ret; exact BytesPost.no rfl
    case pos =>
    have u1z : ¬ (1048576 : Int) < (sk.size : Int) := by omega
    by_cases u2 : zB + sk.size ≤ 1048576
    case neg =>
      have u2z : (1048576 : Int) < zB + (sk.size : Int) := by omega
      go_wp2; go_ret; exact BytesPost.no rfl
    case pos =>
    have u2z : ¬ (1048576 : Int) < zB + (sk.size : Int) := by omega
    go_wp2
    go_roundg (nB - (kB + 1))
    case measure => omega
    case rel =>
      exact ⟨kB + 1, zB + sk.size, by first | rfl | go_num, by go_num, by omega, Nat.le_refl _, by omega, by omega, fun i hi => by
        rcases Nat.lt_or_ge i kB with h | h
        · exact HFB.out i h
        · have : i = kB := by omega
          subst this; rw [HSK.out]; exact u1, rfl⟩
  case neg =>
  have lBz : ¬ (kB : Int) < (nB : Int) := by omega
  have HGB : Hid (Small nB sB) := ⟨bB, fun i hi => HFB.out i (by omega)⟩
  by_cases bxe : xe.size ≤ 1048576
  case neg =>
    have bxez : (1048576 : Int) < (xe.size : Int) := by omega
    go_wp2; go_ret; exact BytesPost.no rfl
  case pos =>
  have bxez : ¬ (1048576 : Int) < (xe.size : Int) := by omega
  by_cases dxe : zB + xe.size ≤ 1048576
  case neg =>
    have dxez : (1048576 : Int) < zB + (xe.size : Int) := by omega
    go_wp2; go_ret; exact BytesPost.no rfl
  case pos =>
  have dxez : ¬ (1048576 : Int) < zB + (xe.size : Int) := by omega
  by_cases bxp : xp.size ≤ 1048576
  case neg =>
    have bxpz : (1048576 : Int) < (xp.size : Int) := by omega
    go_wp2; go_ret; exact BytesPost.no rfl
  case pos =>
  have bxpz : ¬ (1048576 : Int) < (xp.size : Int) := by omega
  by_cases dxp : zB + (xe.size : Int) + xp.size ≤ 1048576
  case neg =>
    have dxpz : (1048576 : Int) < zB + (xe.size : Int) + (xp.size : Int) := by omega
    go_wp2; go_ret; exact BytesPost.no rfl
  case pos =>
  have dxpz : ¬ (1048576 : Int) < zB + (xe.size : Int) + (xp.size : Int) := by omega
  go_wp2
  go_ret
  refine BytesPost.yes rfl ?_
  first | exact ⟨HGA.out, HGB.out, bxe, bxp⟩ | exact ⟨HGA.out, HGB.out⟩

end Go.Proofs.Qxb6614512a
