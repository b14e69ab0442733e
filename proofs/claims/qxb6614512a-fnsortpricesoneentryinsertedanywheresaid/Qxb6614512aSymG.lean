/-
  slices.symMergeCmpFunc at filePrice: the walk where both parts hold more than one entry; the whole, by induction.
-/
import Derived.Test.Qxb6614512aSym
namespace Go.Proofs.Qxb6614512a
open Go.Shelf Go.RowKit Go.Lib Go.Sort

/-- What a merge comes to. -/
def SymPost (eb pb blk off N : Nat) (cf : Nat → Nat → Int) (w0 : World) (a b : Nat) (d : Array Nat) (e : Ending) (w' : World) : Prop :=
  e = .returned (.tuple #[]) ∧ ∃ d' : Array Nat, Rw eb pb blk off N w0 d' w' ∧ PermIn a b d d' ∧ SortedIn (M.tl (ltOf cf)) a b d'

/-- The merges of shorter stretches. -/
def SymIH (eb pb blk off N cap : Nat) (cf : Nat → Nat → Int) (w0 : World) (L : Nat) : Prop :=
  ∀ (a m b : Nat) (d : Array Nat) (w : World), b - a < L → M.Parts (M.tl (ltOf cf)) a m b d → a < m → m < b → b ≤ N → Rw eb pb blk off N w0 d w →
    Calls Try.prog 18 #[.slice (some ⟨blk, off, none⟩) N cap, .int .i64 a, .int .i64 m, .int .i64 b, .func (.func 13) #[] #[]] w (SymPost eb pb blk off N cf w0 a b d)

theorem rot_idle (f : Nat → Nat) (st m en : Nat) (h : st = m ∨ en = m) : f = M.rotF f st m en := by
  funext t
  unfold M.rotF
  rcases h with rfl | rfl
  · by_cases c : st ≤ t ∧ t < st + (en - st)
    · rw [if_pos c]; congr 1; omega
    · rw [if_neg c, if_neg (by omega)]
  · rw [if_neg (by omega)]
    by_cases c : st + (en - en) ≤ t ∧ t < en
    · rw [if_pos c]; congr 1; omega
    · rw [if_neg c]

/-- The end of it: out of the rotation and the two merges. -/
theorem sym_finish {lt : Nat → Nat → Bool} (d d1 d2 d3 : Array Nat) (a mid b st en : Nat) (hz : b ≤ d.size) (h1 : a ≤ st) (h4 : en ≤ b) (ham : a ≤ mid) (hmb : mid ≤ b)
    (hx : ∀ p q, a ≤ p → p < mid → mid ≤ q → q < b → lt d1[q]! d1[p]! = false) (p1 : PermIn st en d d1)
    (p2 : PermIn a mid d1 d2) (s2 : SortedIn lt a mid d2) (p3 : PermIn mid b d2 d3) (s3 : SortedIn lt mid b d3) : PermIn a b d d3 ∧ SortedIn lt a b d3 := by
  have z1 : d1.size = d.size := p1.1
  have z2 : d2.size = d1.size := p2.1
  exact ⟨permIn_trans _ _ _ _ _ (permIn_mono d d1 st en a b h1 h4 hz p1) (permIn_trans _ _ _ _ _ (permIn_mono d1 d2 a mid a b (Nat.le_refl _) hmb (by omega) p2) (permIn_mono d2 d3 mid b a b ham (Nat.le_refl _) (by omega) p3)),
    M.join d1 d2 d3 a mid b (by omega) hmb hx p2 s2 p3 s3⟩

set_option maxHeartbeats 4000000 in
set_option maxRecDepth 100000 in
theorem sym_gen1 (eb pb blk off N cap a m b : Nat) (cf : Nat → Nat → Int) (hS : SWO (ltOf cf)) (d : Array Nat) (w0 w : World) (C : CmpOK eb pb blk off N cf w0) (IH : SymIH eb pb blk off N cap cf w0 (b - a)) (S : Rw eb pb blk off N w0 d w)
    (hP : M.Parts (M.tl (ltOf cf)) a m b d) (ham : a + 1 < m) (hmb : m + 1 < b) (hb : b ≤ N) (hN : N < 4611686018427387904) (hmm : m ≤ (a + b) / 2) :
    Calls Try.prog 18 #[.slice (some ⟨blk, off, none⟩) N cap, .int .i64 a, .int .i64 m, .int .i64 b, .func (.func 13) #[] #[]] w (SymPost eb pb blk off N cf w0 a b d) := by
  have mixed : Try.prog.follows .mixedOrders = true := by kernel_rfl
  have HC : Hid (CmpOK eb pb blk off N cf w0) := C
  have HIH : Hid (SymIH eb pb blk off N cap cf w0 (b - a)) := IH
  have HS : Hid (SWO (M.tl (ltOf cf))) := M.tl_swo hS
  have HP : Hid (M.Parts (M.tl (ltOf cf)) a m b d) := hP
  have HZ : Hid (d.size = N) := S.size
  clear C hS hP IH
  have t1 : ((m : Int) - a == 1) = false := by rw [beq_eq_false_iff_ne]; omega
  have t2 : ((b : Int) - m == 1) = false := by rw [beq_eq_false_iff_ne]; omega
  obtain ⟨mid, hmid⟩ : ∃ mid : Nat, mid = (a + b) / 2 := ⟨_, rfl⟩
  have emid : ((a : Int) + b) / 2 = mid := by omega
  have hm_lo : a + 1 < mid := by omega
  have hm_hi : mid + 1 < b := by omega
  have hm2a : mid + mid ≤ a + b := by omega
  have hm2b : a + b ≤ mid + mid + 1 := by omega
  have hmm' : m ≤ mid := by omega
  clear hmid hmm
  obtain ⟨nn, hnn⟩ : ∃ nn : Nat, nn = mid + m := ⟨_, rfl⟩
  have enn : (mid : Int) + m = nn := by omega
  have HNN : Hid (nn = mid + m) := hnn
  have hnn1 : nn ≤ N + N := by omega
  have hnn2 : 1 < nn := by omega
  clear hnn
  obtain ⟨pp, hpp⟩ : ∃ pp : Nat, pp = nn - 1 := ⟨_, rfl⟩
  have epp : (nn : Int) - 1 = pp := by omega
  have HPP : Hid (pp + 1 = nn) := by show _ = _; omega
  clear hpp
  have hmz : ¬ (mid : Int) < (m : Int) := by omega
  obtain ⟨st0, hst0⟩ : ∃ st0 : Nat, st0 = a := ⟨_, rfl⟩
  obtain ⟨r0, hr0⟩ : ∃ r0 : Nat, r0 = m := ⟨_, rfl⟩
  have HL : Hid (st0 = a ∨ nn = b + st0) := Or.inl hst0
  have HR : Hid (r0 = m ∨ nn = m + r0) := Or.inl hr0
  have HE : Hid (st0 = a ∧ r0 = m) := ⟨hst0, hr0⟩
  have f1 : a ≤ st0 := by have := HNN.out; omega
  have f2 : st0 ≤ r0 := by have := HNN.out; omega
  have f3 : r0 ≤ m := by omega
  have f4 : nn ≤ b + st0 := by have := HNN.out; omega
  have f5 : m + r0 ≤ nn := by have := HNN.out; omega
  clear hst0 hr0
  go_enter Try.func18, Try.ntmps18
  go_wp2_with fail
  go_loopg [20, 21] (r0 - st0) (fun kx s1 s2 wr => ∃ (st r : Nat), s1 = .int .i64 st ∧ s2 = .int .i64 r ∧ st0 ≤ st ∧ st ≤ r ∧ r ≤ r0 ∧ r - st ≤ kx ∧ Hid ((st = st0 ∨ M.tl (ltOf cf) d[nn - st]! d[st - 1]! = false) ∧ (r = r0 ∨ M.tl (ltOf cf) d[nn - 1 - r]! d[r]! = true)) ∧ Rw eb pb blk off N w0 d wr)
  case atStart => exact ⟨a, m, rfl, rfl, by have := HE.out; omega, by omega, by have := HE.out; omega, by have := HE.out; omega, ⟨Or.inl (by have := HE.out; omega), Or.inl (by have := HE.out; omega)⟩, S⟩
  case round =>
    clear S HE
    obtain ⟨st, r, rfl, rfl, hs1, hs2, hs3, hkx, HF, S1⟩ := hrel
    by_cases hlt : st < r
    · have hltz : (st : Int) < (r : Int) := by omega
      obtain ⟨c, hc⟩ : ∃ c : Nat, c = (st + r) / 2 := ⟨_, rfl⟩
      have ec : ((st : Int) + r) / 2 = c := by omega
      have hsc : st ≤ c := by omega
      have hcr : c < r := by omega
      clear hc
      obtain ⟨pc, hpc⟩ : ∃ pc : Nat, pc = nn - 1 - c := ⟨_, rfl⟩
      have epc : (pp : Int) - c = pc := by have := HPP.out; omega
      have HPC : Hid (pc = nn - 1 - c) := hpc
      have hpc1 : m ≤ pc := by omega
      have hpc2 : pc < b := by omega
      clear hpc
      have rpc : IntKind.i64.wrap (pc : Int) = (pc : Int) := by rw [IntKind.wrap_i64]; omega
      have zc : (c : Int) < (N : Int) := by omega
      have zc0 : (0 : Int) ≤ (c : Int) := by omega
      have tc : ((c : Int)).toNat = c := by omega
      have zp : (pc : Int) < (N : Int) := by omega
      have zp0 : (0 : Int) ≤ (pc : Int) := by omega
      have tp : ((pc : Int)).toNat = pc := by omega
      obtain ⟨x, hx⟩ : ∃ x, d[pc]! = x := ⟨_, rfl⟩
      obtain ⟨y, hy⟩ : ∃ y, d[c]! = y := ⟨_, rfl⟩
      obtain ⟨lx0, lx1⟩ := S1.ld (i := pc) (by omega) hx
      obtain ⟨ly0, ly1⟩ := S1.ld (i := c) (by omega) hy
      have hcg := HC.out.at S1 (i := pc) (j := c) (by omega) hx (by omega) hy
      have HT : Hid (M.tl (ltOf cf) d[pc]! d[c]! = decide (cf x y < 0)) := by
        show _ = _
        rw [M.tl_of_tag (HP.out.tags c pc (by omega) (by omega) (by omega) (by omega)), hx, hy]; rfl
      clear hx hy
      go_wp2_with fail
      by_cases hlv : cf x y < 0
      · go_quiet_grown (first | (go_at_call 13; refine Calls.grown_of (hcg _ _)))
        have S3 := S1.grown nq osq
        clear S1 hcg lx0 lx1 ly0 ly1
        go_wp2
        go_roundg (c - st)
        case measure => omega
        case rel => exact ⟨st, c, rfl, rfl, hs1, hsc, by omega, Nat.le_refl _, ⟨HF.out.1, Or.inr (by rw [← HPC.out, HT.out]; exact decide_eq_true hlv)⟩, S3⟩
      · go_quiet_grown (first | (go_at_call 13; refine Calls.grown_of (hcg _ _)))
        have S3 := S1.grown nq osq
        clear S1 hcg lx0 lx1 ly0 ly1
        go_wp2
        go_roundg (r - (c + 1))
        case measure => omega
        case rel => exact ⟨c + 1, r, by go_num, rfl, by omega, by omega, hs3, Nat.le_refl _, ⟨Or.inr (by rw [show nn - (c + 1) = nn - 1 - c by omega, Nat.add_sub_cancel, ← HPC.out, HT.out]; exact decide_eq_false (by omega)), HF.out.2⟩, S3⟩
    · have hltz : ¬ (st : Int) < (r : Int) := by omega
      have hre : Hid (r = st) := by show _ = _; omega
      obtain ⟨en, hen⟩ : ∃ en : Nat, en = nn - st := ⟨_, rfl⟩
      have een : (nn : Int) - st = en := by omega
      have HEN : Hid (en = nn - st) := hen
      have hm1 : m ≤ en := by omega
      have hm2 : en ≤ b := by omega
      clear hen
      have hA : Hid (a < st → en < b → M.tl (ltOf cf) d[en]! d[st - 1]! = false) := fun u v => by
        rcases HF.out.1 with g | g
        · have h1 := HL.out; have h2 := HEN.out; omega
        · rw [HEN.out]; exact g
      have hB : Hid (m < en → st < m → M.tl (ltOf cf) d[st]! d[en - 1]! = false) := fun u v => by
        rcases HF.out.2 with g | g
        · have h1 := HR.out; have h2 := HEN.out; have h3 := hre.out; omega
        · rw [hre.out] at g
          rw [HEN.out, show nn - st - 1 = nn - 1 - st by omega]
          exact HS.out.asymmA g
      have hsp : Hid (∀ d1 : Array Nat, M.fn d1 = M.rotF (M.fn d) st m en → M.Parts (M.tl (ltOf cf)) a st mid d1 ∧ M.Parts (M.tl (ltOf cf)) mid en b d1 ∧ ∀ p q, a ≤ p → p < mid → mid ≤ q → q < b → M.tl (ltOf cf) d1[q]! d1[p]! = false) := fun d1 hd1 =>
        M.split HS.out d d1 a m b mid st en HP.out (by omega) (by omega) hm1 hm2 (by have := HEN.out; have := HNN.out; omega) hA.out hB.out hd1
      clear HF hA hB HL HR hre hkx
      by_cases c1 : st < m ∧ m < en
      all_goals by_cases c2 : a < st ∧ st < mid
      all_goals by_cases c3 : mid < en ∧ en < b
      · have q1 : (st : Int) < (m : Int) := by omega
        have q2 : (m : Int) < (en : Int) := by omega
        have q3 : (a : Int) < (st : Int) := by omega
        have q4 : (st : Int) < (mid : Int) := by omega
        have q5 : (mid : Int) < (en : Int) := by omega
        have q6 : (en : Int) < (b : Int) := by omega
        go_wp2_with fail
        refine (rotate_any eb pb blk off N cap st m en (.func (.func 13) #[] #[]) d w0 wr S1 (by omega) (by omega) (by omega) hN).mono ?_
        rintro e w1 ⟨rfl, d1, S2, p1, e1⟩
        have P1 : Hid (PermIn st en d d1) := p1
        have E1 : Hid (M.fn d1 = M.rotF (M.fn d) st m en) := e1
        clear p1 e1 S1
        go_wp2_with fail
        refine (HIH.out a st mid d1 _ (by omega) (hsp.out d1 E1.out).1 (by omega) (by omega) (by omega) S2).mono ?_
        rintro e w2 ⟨rfl, d2, S3, p2, s2⟩
        have P2 : Hid (PermIn a mid d1 d2 ∧ SortedIn (M.tl (ltOf cf)) a mid d2) := ⟨p2, s2⟩
        clear p2 s2 S2
        go_wp2_with fail
        have PQ : Hid (M.Parts (M.tl (ltOf cf)) mid en b d2) := (hsp.out d1 E1.out).2.1.congr (fun t u v => P2.out.1.2.1 t (Or.inr u)) (by have := HEN.out; have := HNN.out; omega) hm2
        refine (HIH.out mid en b d2 _ (by omega) PQ.out (by omega) (by omega) (by omega) S3).mono ?_
        rintro e w3 ⟨rfl, d3, S4, p3, s3⟩
        clear S3
        have PF : Hid (PermIn a b d d3 ∧ SortedIn (M.tl (ltOf cf)) a b d3) := sym_finish d d1 d2 d3 a mid b st en (by rw [HZ.out]; omega) (by omega) hm2 (by omega) (by omega) (hsp.out d1 E1.out).2.2 P1.out P2.out.1 P2.out.2 p3 s3
        clear p3 s3
        go_wp2
        go_end0
        exact ⟨rfl, d3, S4, PF.out⟩
      · exfalso; have i1 := HEN.out; have i2 := HNN.out; omega
      · have q1 : (st : Int) < (m : Int) := by omega
        have q2 : (m : Int) < (en : Int) := by omega
        have q5 : (mid : Int) < (en : Int) := by omega
        have q6 : (en : Int) < (b : Int) := by omega
        go_wp2_with fail
        refine (rotate_any eb pb blk off N cap st m en (.func (.func 13) #[] #[]) d w0 wr S1 (by omega) (by omega) (by omega) hN).mono ?_
        rintro e w1 ⟨rfl, d1, S2, p1, e1⟩
        have P1 : Hid (PermIn st en d d1) := p1
        have E1 : Hid (M.fn d1 = M.rotF (M.fn d) st m en) := e1
        clear p1 e1 S1
        go_wp2_with fail
        have S3 := S2
        obtain ⟨d2, hd2⟩ : ∃ d2, d2 = d1 := ⟨_, rfl⟩
        rw [← hd2] at S3
        have P2 : Hid (PermIn a mid d1 d2 ∧ SortedIn (M.tl (ltOf cf)) a mid d2) := by rw [hd2]; exact ⟨permIn_refl _ _ _, (hsp.out d1 E1.out).1.trivial c2 (by omega) (by have := HEN.out; have := HNN.out; omega)⟩
        clear hd2 S2
        have PQ : Hid (M.Parts (M.tl (ltOf cf)) mid en b d2) := (hsp.out d1 E1.out).2.1.congr (fun t u v => P2.out.1.2.1 t (Or.inr u)) (by have := HEN.out; have := HNN.out; omega) hm2
        refine (HIH.out mid en b d2 _ (by omega) PQ.out (by omega) (by omega) (by omega) S3).mono ?_
        rintro e w3 ⟨rfl, d3, S4, p3, s3⟩
        clear S3
        have PF : Hid (PermIn a b d d3 ∧ SortedIn (M.tl (ltOf cf)) a b d3) := sym_finish d d1 d2 d3 a mid b st en (by rw [HZ.out]; omega) (by omega) hm2 (by omega) (by omega) (hsp.out d1 E1.out).2.2 P1.out P2.out.1 P2.out.2 p3 s3
        clear p3 s3
        go_wp2
        go_end0
        exact ⟨rfl, d3, S4, PF.out⟩
      · have q1 : (st : Int) < (m : Int) := by omega
        have q2 : (m : Int) < (en : Int) := by omega
        go_wp2_with fail
        refine (rotate_any eb pb blk off N cap st m en (.func (.func 13) #[] #[]) d w0 wr S1 (by omega) (by omega) (by omega) hN).mono ?_
        rintro e w1 ⟨rfl, d1, S2, p1, e1⟩
        have P1 : Hid (PermIn st en d d1) := p1
        have E1 : Hid (M.fn d1 = M.rotF (M.fn d) st m en) := e1
        clear p1 e1 S1
        go_wp2_with fail
        have S3 := S2
        obtain ⟨d2, hd2⟩ : ∃ d2, d2 = d1 := ⟨_, rfl⟩
        rw [← hd2] at S3
        have P2 : Hid (PermIn a mid d1 d2 ∧ SortedIn (M.tl (ltOf cf)) a mid d2) := by rw [hd2]; exact ⟨permIn_refl _ _ _, (hsp.out d1 E1.out).1.trivial c2 (by omega) (by have := HEN.out; have := HNN.out; omega)⟩
        clear hd2 S2
        have PQ : Hid (M.Parts (M.tl (ltOf cf)) mid en b d2) := (hsp.out d1 E1.out).2.1.congr (fun t u v => P2.out.1.2.1 t (Or.inr u)) (by have := HEN.out; have := HNN.out; omega) hm2
        have S4 := S3
        obtain ⟨d3, hd3⟩ : ∃ d3, d3 = d2 := ⟨_, rfl⟩
        rw [← hd3] at S4
        have p3 : PermIn mid b d2 d3 := by rw [hd3]; exact permIn_refl _ _ _
        have s3 : SortedIn (M.tl (ltOf cf)) mid b d3 := by rw [hd3]; exact PQ.out.trivial c3 (by have := HEN.out; have := HNN.out; omega) hm2
        clear hd3 S3
        have PF : Hid (PermIn a b d d3 ∧ SortedIn (M.tl (ltOf cf)) a b d3) := sym_finish d d1 d2 d3 a mid b st en (by rw [HZ.out]; omega) (by omega) hm2 (by omega) (by omega) (hsp.out d1 E1.out).2.2 P1.out P2.out.1 P2.out.2 p3 s3
        clear p3 s3
        go_wp2
        go_end0
        exact ⟨rfl, d3, S4, PF.out⟩
      · exfalso; have i1 := HEN.out; have i2 := HNN.out; omega
      · have q3 : (a : Int) < (st : Int) := by omega
        have q4 : (st : Int) < (mid : Int) := by omega
        go_wp2_with fail
        have S2 := S1
        obtain ⟨d1, hd1⟩ : ∃ d1, d1 = d := ⟨_, rfl⟩
        rw [← hd1] at S2
        have P1 : Hid (PermIn st en d d1) := by rw [hd1]; exact permIn_refl _ _ _
        have E1 : Hid (M.fn d1 = M.rotF (M.fn d) st m en) := by rw [hd1]; exact rot_idle _ _ _ _ (by omega)
        clear hd1 S1
        refine (HIH.out a st mid d1 _ (by omega) (hsp.out d1 E1.out).1 (by omega) (by omega) (by omega) S2).mono ?_
        rintro e w2 ⟨rfl, d2, S3, p2, s2⟩
        have P2 : Hid (PermIn a mid d1 d2 ∧ SortedIn (M.tl (ltOf cf)) a mid d2) := ⟨p2, s2⟩
        clear p2 s2 S2
        go_wp2_with fail
        have PQ : Hid (M.Parts (M.tl (ltOf cf)) mid en b d2) := (hsp.out d1 E1.out).2.1.congr (fun t u v => P2.out.1.2.1 t (Or.inr u)) (by have := HEN.out; have := HNN.out; omega) hm2
        have S4 := S3
        obtain ⟨d3, hd3⟩ : ∃ d3, d3 = d2 := ⟨_, rfl⟩
        rw [← hd3] at S4
        have p3 : PermIn mid b d2 d3 := by rw [hd3]; exact permIn_refl _ _ _
        have s3 : SortedIn (M.tl (ltOf cf)) mid b d3 := by rw [hd3]; exact PQ.out.trivial c3 (by have := HEN.out; have := HNN.out; omega) hm2
        clear hd3 S3
        have PF : Hid (PermIn a b d d3 ∧ SortedIn (M.tl (ltOf cf)) a b d3) := sym_finish d d1 d2 d3 a mid b st en (by rw [HZ.out]; omega) (by omega) hm2 (by omega) (by omega) (hsp.out d1 E1.out).2.2 P1.out P2.out.1 P2.out.2 p3 s3
        clear p3 s3
        go_wp2
        go_end0
        exact ⟨rfl, d3, S4, PF.out⟩
      · exfalso; have i1 := HEN.out; have i2 := HNN.out; omega
      · go_wp2_with fail
        have S2 := S1
        obtain ⟨d1, hd1⟩ : ∃ d1, d1 = d := ⟨_, rfl⟩
        rw [← hd1] at S2
        have P1 : Hid (PermIn st en d d1) := by rw [hd1]; exact permIn_refl _ _ _
        have E1 : Hid (M.fn d1 = M.rotF (M.fn d) st m en) := by rw [hd1]; exact rot_idle _ _ _ _ (by omega)
        clear hd1 S1
        have S3 := S2
        obtain ⟨d2, hd2⟩ : ∃ d2, d2 = d1 := ⟨_, rfl⟩
        rw [← hd2] at S3
        have P2 : Hid (PermIn a mid d1 d2 ∧ SortedIn (M.tl (ltOf cf)) a mid d2) := by rw [hd2]; exact ⟨permIn_refl _ _ _, (hsp.out d1 E1.out).1.trivial c2 (by omega) (by have := HEN.out; have := HNN.out; omega)⟩
        clear hd2 S2
        have PQ : Hid (M.Parts (M.tl (ltOf cf)) mid en b d2) := (hsp.out d1 E1.out).2.1.congr (fun t u v => P2.out.1.2.1 t (Or.inr u)) (by have := HEN.out; have := HNN.out; omega) hm2
        have S4 := S3
        obtain ⟨d3, hd3⟩ : ∃ d3, d3 = d2 := ⟨_, rfl⟩
        rw [← hd3] at S4
        have p3 : PermIn mid b d2 d3 := by rw [hd3]; exact permIn_refl _ _ _
        have s3 : SortedIn (M.tl (ltOf cf)) mid b d3 := by rw [hd3]; exact PQ.out.trivial c3 (by have := HEN.out; have := HNN.out; omega) hm2
        clear hd3 S3
        have PF : Hid (PermIn a b d d3 ∧ SortedIn (M.tl (ltOf cf)) a b d3) := sym_finish d d1 d2 d3 a mid b st en (by rw [HZ.out]; omega) (by omega) hm2 (by omega) (by omega) (hsp.out d1 E1.out).2.2 P1.out P2.out.1 P2.out.2 p3 s3
        clear p3 s3
        go_wp2
        go_end0
        exact ⟨rfl, d3, S4, PF.out⟩

set_option maxHeartbeats 4000000 in
set_option maxRecDepth 100000 in
theorem sym_gen2 (eb pb blk off N cap a m b : Nat) (cf : Nat → Nat → Int) (hS : SWO (ltOf cf)) (d : Array Nat) (w0 w : World) (C : CmpOK eb pb blk off N cf w0) (IH : SymIH eb pb blk off N cap cf w0 (b - a)) (S : Rw eb pb blk off N w0 d w)
    (hP : M.Parts (M.tl (ltOf cf)) a m b d) (ham : a + 1 < m) (hmb : m + 1 < b) (hb : b ≤ N) (hN : N < 4611686018427387904) (hmm : (a + b) / 2 < m) :
    Calls Try.prog 18 #[.slice (some ⟨blk, off, none⟩) N cap, .int .i64 a, .int .i64 m, .int .i64 b, .func (.func 13) #[] #[]] w (SymPost eb pb blk off N cf w0 a b d) := by
  have mixed : Try.prog.follows .mixedOrders = true := by kernel_rfl
  have HC : Hid (CmpOK eb pb blk off N cf w0) := C
  have HIH : Hid (SymIH eb pb blk off N cap cf w0 (b - a)) := IH
  have HS : Hid (SWO (M.tl (ltOf cf))) := M.tl_swo hS
  have HP : Hid (M.Parts (M.tl (ltOf cf)) a m b d) := hP
  have HZ : Hid (d.size = N) := S.size
  clear C hS hP IH
  have t1 : ((m : Int) - a == 1) = false := by rw [beq_eq_false_iff_ne]; omega
  have t2 : ((b : Int) - m == 1) = false := by rw [beq_eq_false_iff_ne]; omega
  obtain ⟨mid, hmid⟩ : ∃ mid : Nat, mid = (a + b) / 2 := ⟨_, rfl⟩
  have emid : ((a : Int) + b) / 2 = mid := by omega
  have hm_lo : a + 1 < mid := by omega
  have hm_hi : mid + 1 < b := by omega
  have hm2a : mid + mid ≤ a + b := by omega
  have hm2b : a + b ≤ mid + mid + 1 := by omega
  have hmm' : mid < m := by omega
  clear hmid hmm
  obtain ⟨nn, hnn⟩ : ∃ nn : Nat, nn = mid + m := ⟨_, rfl⟩
  have enn : (mid : Int) + m = nn := by omega
  have HNN : Hid (nn = mid + m) := hnn
  have hnn1 : nn ≤ N + N := by omega
  have hnn2 : 1 < nn := by omega
  clear hnn
  obtain ⟨pp, hpp⟩ : ∃ pp : Nat, pp = nn - 1 := ⟨_, rfl⟩
  have epp : (nn : Int) - 1 = pp := by omega
  have HPP : Hid (pp + 1 = nn) := by show _ = _; omega
  clear hpp
  have hmz : (mid : Int) < (m : Int) := by omega
  obtain ⟨st0, hst0⟩ : ∃ st0 : Nat, st0 = nn - b := ⟨_, rfl⟩
  obtain ⟨r0, hr0⟩ : ∃ r0 : Nat, r0 = mid := ⟨_, rfl⟩
  have es0 : (nn : Int) - b = st0 := by have := HNN.out; omega
  have HL : Hid (st0 = a ∨ nn = b + st0) := Or.inr (by have := HNN.out; omega)
  have HR : Hid (r0 = m ∨ nn = m + r0) := Or.inr (by have := HNN.out; omega)
  have HE : Hid (st0 = nn - b ∧ r0 = mid) := ⟨hst0, hr0⟩
  have f1 : a ≤ st0 := by have := HNN.out; omega
  have f2 : st0 ≤ r0 := by have := HNN.out; omega
  have f3 : r0 ≤ m := by omega
  have f4 : nn ≤ b + st0 := by have := HNN.out; omega
  have f5 : m + r0 ≤ nn := by have := HNN.out; omega
  clear hst0 hr0
  go_enter Try.func18, Try.ntmps18
  go_wp2_with fail
  go_loopg [20, 21] (r0 - st0) (fun kx s1 s2 wr => ∃ (st r : Nat), s1 = .int .i64 st ∧ s2 = .int .i64 r ∧ st0 ≤ st ∧ st ≤ r ∧ r ≤ r0 ∧ r - st ≤ kx ∧ Hid ((st = st0 ∨ M.tl (ltOf cf) d[nn - st]! d[st - 1]! = false) ∧ (r = r0 ∨ M.tl (ltOf cf) d[nn - 1 - r]! d[r]! = true)) ∧ Rw eb pb blk off N w0 d wr)
  case atStart => exact ⟨st0, mid, rfl, rfl, Nat.le_refl _, by have := HE.out; omega, by have := HE.out; omega, by have := HE.out; omega, ⟨Or.inl (by have := HE.out; omega), Or.inl (by have := HE.out; omega)⟩, S⟩
  case round =>
    clear S HE
    obtain ⟨st, r, rfl, rfl, hs1, hs2, hs3, hkx, HF, S1⟩ := hrel
    by_cases hlt : st < r
    · have hltz : (st : Int) < (r : Int) := by omega
      obtain ⟨c, hc⟩ : ∃ c : Nat, c = (st + r) / 2 := ⟨_, rfl⟩
      have ec : ((st : Int) + r) / 2 = c := by omega
      have hsc : st ≤ c := by omega
      have hcr : c < r := by omega
      clear hc
      obtain ⟨pc, hpc⟩ : ∃ pc : Nat, pc = nn - 1 - c := ⟨_, rfl⟩
      have epc : (pp : Int) - c = pc := by have := HPP.out; omega
      have HPC : Hid (pc = nn - 1 - c) := hpc
      have hpc1 : m ≤ pc := by omega
      have hpc2 : pc < b := by omega
      clear hpc
      have rpc : IntKind.i64.wrap (pc : Int) = (pc : Int) := by rw [IntKind.wrap_i64]; omega
      have zc : (c : Int) < (N : Int) := by omega
      have zc0 : (0 : Int) ≤ (c : Int) := by omega
      have tc : ((c : Int)).toNat = c := by omega
      have zp : (pc : Int) < (N : Int) := by omega
      have zp0 : (0 : Int) ≤ (pc : Int) := by omega
      have tp : ((pc : Int)).toNat = pc := by omega
      obtain ⟨x, hx⟩ : ∃ x, d[pc]! = x := ⟨_, rfl⟩
      obtain ⟨y, hy⟩ : ∃ y, d[c]! = y := ⟨_, rfl⟩
      obtain ⟨lx0, lx1⟩ := S1.ld (i := pc) (by omega) hx
      obtain ⟨ly0, ly1⟩ := S1.ld (i := c) (by omega) hy
      have hcg := HC.out.at S1 (i := pc) (j := c) (by omega) hx (by omega) hy
      have HT : Hid (M.tl (ltOf cf) d[pc]! d[c]! = decide (cf x y < 0)) := by
        show _ = _
        rw [M.tl_of_tag (HP.out.tags c pc (by omega) (by omega) (by omega) (by omega)), hx, hy]; rfl
      clear hx hy
      go_wp2_with fail
      by_cases hlv : cf x y < 0
      · go_quiet_grown (first | (go_at_call 13; refine Calls.grown_of (hcg _ _)))
        have S3 := S1.grown nq osq
        clear S1 hcg lx0 lx1 ly0 ly1
        go_wp2
        go_roundg (c - st)
        case measure => omega
        case rel => exact ⟨st, c, rfl, rfl, hs1, hsc, by omega, Nat.le_refl _, ⟨HF.out.1, Or.inr (by rw [← HPC.out, HT.out]; exact decide_eq_true hlv)⟩, S3⟩
      · go_quiet_grown (first | (go_at_call 13; refine Calls.grown_of (hcg _ _)))
        have S3 := S1.grown nq osq
        clear S1 hcg lx0 lx1 ly0 ly1
        go_wp2
        go_roundg (r - (c + 1))
        case measure => omega
        case rel => exact ⟨c + 1, r, by go_num, rfl, by omega, by omega, hs3, Nat.le_refl _, ⟨Or.inr (by rw [show nn - (c + 1) = nn - 1 - c by omega, Nat.add_sub_cancel, ← HPC.out, HT.out]; exact decide_eq_false (by omega)), HF.out.2⟩, S3⟩
    · have hltz : ¬ (st : Int) < (r : Int) := by omega
      have hre : Hid (r = st) := by show _ = _; omega
      obtain ⟨en, hen⟩ : ∃ en : Nat, en = nn - st := ⟨_, rfl⟩
      have een : (nn : Int) - st = en := by omega
      have HEN : Hid (en = nn - st) := hen
      have hm1 : m ≤ en := by omega
      have hm2 : en ≤ b := by omega
      clear hen
      have hA : Hid (a < st → en < b → M.tl (ltOf cf) d[en]! d[st - 1]! = false) := fun u v => by
        rcases HF.out.1 with g | g
        · have h1 := HL.out; have h2 := HEN.out; omega
        · rw [HEN.out]; exact g
      have hB : Hid (m < en → st < m → M.tl (ltOf cf) d[st]! d[en - 1]! = false) := fun u v => by
        rcases HF.out.2 with g | g
        · have h1 := HR.out; have h2 := HEN.out; have h3 := hre.out; omega
        · rw [hre.out] at g
          rw [HEN.out, show nn - st - 1 = nn - 1 - st by omega]
          exact HS.out.asymmA g
      have hsp : Hid (∀ d1 : Array Nat, M.fn d1 = M.rotF (M.fn d) st m en → M.Parts (M.tl (ltOf cf)) a st mid d1 ∧ M.Parts (M.tl (ltOf cf)) mid en b d1 ∧ ∀ p q, a ≤ p → p < mid → mid ≤ q → q < b → M.tl (ltOf cf) d1[q]! d1[p]! = false) := fun d1 hd1 =>
        M.split HS.out d d1 a m b mid st en HP.out (by omega) (by omega) hm1 hm2 (by have := HEN.out; have := HNN.out; omega) hA.out hB.out hd1
      clear HF hA hB HL HR hre hkx
      by_cases c1 : st < m ∧ m < en
      all_goals by_cases c2 : a < st ∧ st < mid
      all_goals by_cases c3 : mid < en ∧ en < b
      · have q1 : (st : Int) < (m : Int) := by omega
        have q2 : (m : Int) < (en : Int) := by omega
        have q3 : (a : Int) < (st : Int) := by omega
        have q4 : (st : Int) < (mid : Int) := by omega
        have q5 : (mid : Int) < (en : Int) := by omega
        have q6 : (en : Int) < (b : Int) := by omega
        go_wp2_with fail
        refine (rotate_any eb pb blk off N cap st m en (.func (.func 13) #[] #[]) d w0 wr S1 (by omega) (by omega) (by omega) hN).mono ?_
        rintro e w1 ⟨rfl, d1, S2, p1, e1⟩
        have P1 : Hid (PermIn st en d d1) := p1
        have E1 : Hid (M.fn d1 = M.rotF (M.fn d) st m en) := e1
        clear p1 e1 S1
        go_wp2_with fail
        refine (HIH.out a st mid d1 _ (by omega) (hsp.out d1 E1.out).1 (by omega) (by omega) (by omega) S2).mono ?_
        rintro e w2 ⟨rfl, d2, S3, p2, s2⟩
        have P2 : Hid (PermIn a mid d1 d2 ∧ SortedIn (M.tl (ltOf cf)) a mid d2) := ⟨p2, s2⟩
        clear p2 s2 S2
        go_wp2_with fail
        have PQ : Hid (M.Parts (M.tl (ltOf cf)) mid en b d2) := (hsp.out d1 E1.out).2.1.congr (fun t u v => P2.out.1.2.1 t (Or.inr u)) (by have := HEN.out; have := HNN.out; omega) hm2
        refine (HIH.out mid en b d2 _ (by omega) PQ.out (by omega) (by omega) (by omega) S3).mono ?_
        rintro e w3 ⟨rfl, d3, S4, p3, s3⟩
        clear S3
        have PF : Hid (PermIn a b d d3 ∧ SortedIn (M.tl (ltOf cf)) a b d3) := sym_finish d d1 d2 d3 a mid b st en (by rw [HZ.out]; omega) (by omega) hm2 (by omega) (by omega) (hsp.out d1 E1.out).2.2 P1.out P2.out.1 P2.out.2 p3 s3
        clear p3 s3
        go_wp2
        go_end0
        exact ⟨rfl, d3, S4, PF.out⟩
      · have q1 : (st : Int) < (m : Int) := by omega
        have q2 : (m : Int) < (en : Int) := by omega
        have q3 : (a : Int) < (st : Int) := by omega
        have q4 : (st : Int) < (mid : Int) := by omega
        go_wp2_with fail
        refine (rotate_any eb pb blk off N cap st m en (.func (.func 13) #[] #[]) d w0 wr S1 (by omega) (by omega) (by omega) hN).mono ?_
        rintro e w1 ⟨rfl, d1, S2, p1, e1⟩
        have P1 : Hid (PermIn st en d d1) := p1
        have E1 : Hid (M.fn d1 = M.rotF (M.fn d) st m en) := e1
        clear p1 e1 S1
        go_wp2_with fail
        refine (HIH.out a st mid d1 _ (by omega) (hsp.out d1 E1.out).1 (by omega) (by omega) (by omega) S2).mono ?_
        rintro e w2 ⟨rfl, d2, S3, p2, s2⟩
        have P2 : Hid (PermIn a mid d1 d2 ∧ SortedIn (M.tl (ltOf cf)) a mid d2) := ⟨p2, s2⟩
        clear p2 s2 S2
        go_wp2_with fail
        have PQ : Hid (M.Parts (M.tl (ltOf cf)) mid en b d2) := (hsp.out d1 E1.out).2.1.congr (fun t u v => P2.out.1.2.1 t (Or.inr u)) (by have := HEN.out; have := HNN.out; omega) hm2
        have S4 := S3
        obtain ⟨d3, hd3⟩ : ∃ d3, d3 = d2 := ⟨_, rfl⟩
        rw [← hd3] at S4
        have p3 : PermIn mid b d2 d3 := by rw [hd3]; exact permIn_refl _ _ _
        have s3 : SortedIn (M.tl (ltOf cf)) mid b d3 := by rw [hd3]; exact PQ.out.trivial c3 (by have := HEN.out; have := HNN.out; omega) hm2
        clear hd3 S3
        have PF : Hid (PermIn a b d d3 ∧ SortedIn (M.tl (ltOf cf)) a b d3) := sym_finish d d1 d2 d3 a mid b st en (by rw [HZ.out]; omega) (by omega) hm2 (by omega) (by omega) (hsp.out d1 E1.out).2.2 P1.out P2.out.1 P2.out.2 p3 s3
        clear p3 s3
        go_wp2
        go_end0
        exact ⟨rfl, d3, S4, PF.out⟩
      · exfalso; have i1 := HEN.out; have i2 := HNN.out; omega
      · have q1 : (st : Int) < (m : Int) := by omega
        have q2 : (m : Int) < (en : Int) := by omega
        go_wp2_with fail
        refine (rotate_any eb pb blk off N cap st m en (.func (.func 13) #[] #[]) d w0 wr S1 (by omega) (by omega) (by omega) hN).mono ?_
        rintro e w1 ⟨rfl, d1, S2, p1, e1⟩
        have P1 : Hid (PermIn st en d d1) := p1
        have E1 : Hid (M.fn d1 = M.rotF (M.fn d) st m en) := e1
        clear p1 e1 S1
        go_wp2_with fail
        have S3 := S2
        obtain ⟨d2, hd2⟩ : ∃ d2, d2 = d1 := ⟨_, rfl⟩
        rw [← hd2] at S3
        have P2 : Hid (PermIn a mid d1 d2 ∧ SortedIn (M.tl (ltOf cf)) a mid d2) := by rw [hd2]; exact ⟨permIn_refl _ _ _, (hsp.out d1 E1.out).1.trivial c2 (by omega) (by have := HEN.out; have := HNN.out; omega)⟩
        clear hd2 S2
        have PQ : Hid (M.Parts (M.tl (ltOf cf)) mid en b d2) := (hsp.out d1 E1.out).2.1.congr (fun t u v => P2.out.1.2.1 t (Or.inr u)) (by have := HEN.out; have := HNN.out; omega) hm2
        have S4 := S3
        obtain ⟨d3, hd3⟩ : ∃ d3, d3 = d2 := ⟨_, rfl⟩
        rw [← hd3] at S4
        have p3 : PermIn mid b d2 d3 := by rw [hd3]; exact permIn_refl _ _ _
        have s3 : SortedIn (M.tl (ltOf cf)) mid b d3 := by rw [hd3]; exact PQ.out.trivial c3 (by have := HEN.out; have := HNN.out; omega) hm2
        clear hd3 S3
        have PF : Hid (PermIn a b d d3 ∧ SortedIn (M.tl (ltOf cf)) a b d3) := sym_finish d d1 d2 d3 a mid b st en (by rw [HZ.out]; omega) (by omega) hm2 (by omega) (by omega) (hsp.out d1 E1.out).2.2 P1.out P2.out.1 P2.out.2 p3 s3
        clear p3 s3
        go_wp2
        go_end0
        exact ⟨rfl, d3, S4, PF.out⟩
      · exfalso; have i1 := HEN.out; have i2 := HNN.out; omega
      · exfalso; have i1 := HEN.out; have i2 := HNN.out; omega
      · have q5 : (mid : Int) < (en : Int) := by omega
        have q6 : (en : Int) < (b : Int) := by omega
        go_wp2_with fail
        have S2 := S1
        obtain ⟨d1, hd1⟩ : ∃ d1, d1 = d := ⟨_, rfl⟩
        rw [← hd1] at S2
        have P1 : Hid (PermIn st en d d1) := by rw [hd1]; exact permIn_refl _ _ _
        have E1 : Hid (M.fn d1 = M.rotF (M.fn d) st m en) := by rw [hd1]; exact rot_idle _ _ _ _ (by omega)
        clear hd1 S1
        have S3 := S2
        obtain ⟨d2, hd2⟩ : ∃ d2, d2 = d1 := ⟨_, rfl⟩
        rw [← hd2] at S3
        have P2 : Hid (PermIn a mid d1 d2 ∧ SortedIn (M.tl (ltOf cf)) a mid d2) := by rw [hd2]; exact ⟨permIn_refl _ _ _, (hsp.out d1 E1.out).1.trivial c2 (by omega) (by have := HEN.out; have := HNN.out; omega)⟩
        clear hd2 S2
        have PQ : Hid (M.Parts (M.tl (ltOf cf)) mid en b d2) := (hsp.out d1 E1.out).2.1.congr (fun t u v => P2.out.1.2.1 t (Or.inr u)) (by have := HEN.out; have := HNN.out; omega) hm2
        refine (HIH.out mid en b d2 _ (by omega) PQ.out (by omega) (by omega) (by omega) S3).mono ?_
        rintro e w3 ⟨rfl, d3, S4, p3, s3⟩
        clear S3
        have PF : Hid (PermIn a b d d3 ∧ SortedIn (M.tl (ltOf cf)) a b d3) := sym_finish d d1 d2 d3 a mid b st en (by rw [HZ.out]; omega) (by omega) hm2 (by omega) (by omega) (hsp.out d1 E1.out).2.2 P1.out P2.out.1 P2.out.2 p3 s3
        clear p3 s3
        go_wp2
        go_end0
        exact ⟨rfl, d3, S4, PF.out⟩
      · exfalso; have i1 := HEN.out; have i2 := HNN.out; omega

/-- The merge, whatever the two stretches' lengths. -/
theorem sym_any (eb pb blk off N cap : Nat) (cf : Nat → Nat → Int) (hS : SWO (ltOf cf)) (w0 : World) (C : CmpOK eb pb blk off N cf w0) (hN : N < 4611686018427387904) : ∀ L, SymIH eb pb blk off N cap cf w0 L
  | 0 => fun a m b d w h => by omega
  | L + 1 => fun a m b d w h hP ham hmb hb S => by
    have ih := sym_any eb pb blk off N cap cf hS w0 C hN L
    have ih' : SymIH eb pb blk off N cap cf w0 (b - a) := fun a' m' b' d' w' h' => ih a' m' b' d' w' (by omega)
    by_cases h1 : m = a + 1
    · subst h1
      exact sym_leaf1 eb pb blk off N cap a b cf hS d w0 w C S hP hmb hb hN
    · by_cases h2 : b = m + 1
      · subst h2
        exact sym_leaf2 eb pb blk off N cap a m cf hS d w0 w C S hP (by omega) hb hN
      · by_cases h3 : m ≤ (a + b) / 2
        · exact sym_gen1 eb pb blk off N cap a m b cf hS d w0 w C ih' S hP (by omega) (by omega) hb hN h3
        · exact sym_gen2 eb pb blk off N cap a m b cf hS d w0 w C ih' S hP (by omega) (by omega) hb hN (by omega)

end Go.Proofs.Qxb6614512a
