/-
  The row of 'FnNotReachedErrorUnwrapsToItsErr', proved out of the law's walk; the tied card.
-/
import Derived.Test.Qxb6614198aDoorRows
import Derived.Test.Qxb6614198aDoorTie
import Derived.Test.Qxb6614198aDoorCards
import Derived.Test.Qxb6614198aDoorLaw
import Derived.ProofKit
import Derived.OpenVars
import Derived.Lay
import Derived.LaidHandle
import Derived.SevenTiedAt
import Derived.Laws.IdiomArrays
import Derived.Lib.SmallJoins
import Derived.Stop.LaidTwo
namespace Go.Proofs.Qxb6614198aDoor
open Go.ChangeShapes Go.WideShapes Go.ChangeAt Go.RowKit

theorem Tryd.own : ownKnob Tryd.prog.godebug = none := by kernel_rfl
theorem Tryd.laidOut : laidOutB Tryd.prog = true := by kernel_rfl
theorem Tryd.cells23 : Tryd.prog.cellsOf 23 = 4 := by kernel_rfl
theorem Tryd.cells22 : Tryd.prog.cellsOf 22 = 1 := by kernel_rfl
theorem Tryd.cells98 : Tryd.prog.cellsOf 98 = 1 := by kernel_rfl
theorem Tryd.cells9 : Tryd.prog.cellsOf 9 = 1 := by kernel_rfl
theorem Tryd.star : "*" ++ "errors.errorString" = "*errors.errorString" := by decide
theorem Tryd.row71 (u : TypeId) (h : Tryd.prog.typeName? 3 u = some "*errors.errorString") : u = 71 :=
  typeName_ptr_named (nm := "errors.errorString") (by rw [Tryd.star]; kernel_rfl) (by kernel_rfl) (by decide) u (by rw [Tryd.star]; exact h)
theorem Tryd.gType0 : (Tryd.prog.globals[0]?).map (·.type) = some 27 := by kernel_rfl
theorem Tryd.gType1 : (Tryd.prog.globals[1]?).map (·.type) = some 27 := by kernel_rfl
theorem Tryd.gType2 : (Tryd.prog.globals[2]?).map (·.type) = some 27 := by kernel_rfl

/-- What three listed sentinels give: three cells, three different pointers. -/
theorem laid_three {P : Program} {n0 n1 n2 nm : String} {text0 text1 text2 : List UInt8} {W : World} {g0 g1 g2 : Nat} {ti tp te ts : TypeId} {ms : Array (String × TypeId)} {f : Field}
    (h : laidMet P [(n0, .iface nm (.ptr (.agg [.lit (.string text0)]))), (n1, .iface nm (.ptr (.agg [.lit (.string text1)]))), (n2, .iface nm (.ptr (.agg [.lit (.string text2)])))] W)
    (hg0 : P.globalNamed n0 = some g0) (ht0 : (P.globals[g0]?).map (·.type) = some ti) (hg1 : P.globalNamed n1 = some g1) (ht1 : (P.globals[g1]?).map (·.type) = some ti) (hg2 : P.globalNamed n2 = some g2) (ht2 : (P.globals[g2]?).map (·.type) = some ti)
    (hi : P.underlying ti = some (.interface ms)) (hrow : ∀ u, P.typeName? 3 u = some nm → u = tp)
    (hp : P.underlying tp = some (.pointer te)) (he : P.underlying te = some (.struct #[f])) (hft : f.type = ts) (hfo : f.offset = 0) (hs : P.underlying ts = some .string) (hc : P.cellsOf te = 1) (hcs : P.cellsOf ts = 1) :
    ∃ (a0 a1 a2 : Addr),
      W.cell? ⟨g0, 0, none⟩ = some (.iface tp (.pointer (some a0))) ∧ W.cell? ⟨g1, 0, none⟩ = some (.iface tp (.pointer (some a1))) ∧ W.cell? ⟨g2, 0, none⟩ = some (.iface tp (.pointer (some a2))) ∧
      a0 ≠ a1 ∧ a0 ≠ a2 ∧ a1 ≠ a2 ∧
      (∃ c t, W.heap[a0.block]? = some (.cells c t (0, 0))) ∧ (∃ c t, W.heap[a1.block]? = some (.cells c t (0, 0))) ∧ (∃ c t, W.heap[a2.block]? = some (.cells c t (0, 0))) := by
  obtain ⟨ps, ⟨g0', t0', cs0, f0, p0, q0, hg0', ht0', hv0, hd0, ⟨g1', t1', cs1, f1, p1, q1, hg1', ht1', hv1, hd1, ⟨g2', t2', cs2, f2, p2, q2, hg2', ht2', hv2, hd2, _, e2⟩, e1⟩, e0⟩, hnd, hrows⟩ := h
  obtain rfl := Option.some.inj (hg0.symm.trans hg0')
  obtain rfl := Option.some.inj (hg1.symm.trans hg1')
  obtain rfl := Option.some.inj (hg2.symm.trans hg2')
  obtain rfl := Option.some.inj (ht0.symm.trans ht0')
  obtain rfl := Option.some.inj (ht1.symm.trans ht1')
  obtain rfl := Option.some.inj (ht2.symm.trans ht2')
  subst e2
  subst e1
  subst e0
  obtain ⟨l0⟩ := cs0
  obtain ⟨l1⟩ := cs1
  obtain ⟨l2⟩ := cs2
  have ok0 : ∀ u v, l0 = [.iface u v] → Value.okWide P W .any 0 u v := fun u v e => by
    subst e
    exact (hrows g0 0 (by simp [MemPlace.row])).2 u v (by simpa using World.var?_cell hg0' hv0 0)
  have ok1 : ∀ u v, l1 = [.iface u v] → Value.okWide P W .any 0 u v := fun u v e => by
    subst e
    exact (hrows g1 0 (by simp [MemPlace.row])).2 u v (by simpa using World.var?_cell hg1' hv1 0)
  have ok2 : ∀ u v, l2 = [.iface u v] → Value.okWide P W .any 0 u v := fun u v e => by
    subst e
    exact (hrows g2 0 (by simp [MemPlace.row])).2 u v (by simpa using World.var?_cell hg2' hv2 0)
  obtain ⟨a0, s0, rfl, hc0, hs0, hz0, rfl⟩ := errorString_of_trod hi hrow hp he hft hfo hs hc hcs hd0 ok0
  obtain ⟨a1, s1, rfl, hc1, hs1, hz1, rfl⟩ := errorString_of_trod hi hrow hp he hft hfo hs hc hcs hd1 ok1
  obtain ⟨a2, s2, rfl, hc2, hs2, hz2, rfl⟩ := errorString_of_trod hi hrow hp he hft hfo hs hc hcs hd2 ok2
  refine ⟨a0, a1, a2, by simpa using World.var?_cell hg0 hv0 0, by simpa using World.var?_cell hg1 hv1 0, by simpa using World.var?_cell hg2 hv2 0, ?_, ?_, ?_, (hrows a0.block a0.off (by simp [MemPlace.row])).1, (hrows a1.block a1.off (by simp [MemPlace.row])).1, (hrows a2.block a2.off (by simp [MemPlace.row])).1⟩
  · rintro rfl
    simp [MemPlace.row] at hnd
  · rintro rfl
    simp [MemPlace.row] at hnd
  · rintro rfl
    simp [MemPlace.row] at hnd

/-- The arguments read behind the call as they read before it. -/
theorem below_trodAll {H : Type} {enc : TypeId × Value → H} {P : Program} (hl : laidOutB P = true) {W W' : World} (hb : Below W.heap.size W W') :
    ∀ {ts : List TypeId} {vs : List Value} {ds : List (DataW H)} {ps : List MemPlace}, (ts.all fun t => P.readableRec t && decide (t < P.types.size)) = true → DataW.TrodAll enc P W 0 (fun _ => true) true ts vs ds ps → (∀ x ∈ ps, x.block < W.heap.size) →
      DataW.TrodAll enc P W' 0 (fun b => decide (b < W.heap.size)) true ts vs ds ps
  | [], [], [], _, _, h, _ => h
  | t :: ts, v :: vs, d :: ds, ps, ht, ⟨p, q, h1, h2, e⟩, hlt => by
    simp only [List.all_cons, Bool.and_eq_true, decide_eq_true_eq] at ht
    subst e
    exact ⟨p, q, Below.trod hl ht.1.1 ht.1.2 h1 hb (fun x hx => hlt x (by simp [hx])), below_trodAll hl hb ht.2 h2 (fun x hx => hlt x (by simp [hx])), rfl⟩

/-- An array of four words by value. -/
theorem open_words {H : Type} {enc : TypeId × Value → H} {W : World} {base : Nat} {v : Value} {d : DataW H} {p : List MemPlace} (hv : Value.okWide Tryd.prog W .any base 23 v) (h : DataW.Trod enc Tryd.prog W 0 (fun _ => true) true 23 v d p) :
    ∃ u0 u1 u2 u3 : Int, v = .agg #[.int .u64 u0, .int .u64 u1, .int .u64 u2, .int .u64 u3] := by
  obtain ⟨cs, rfl, hsz, _⟩ : ∃ cs, v = .agg cs ∧ cs.size = Tryd.prog.cellsOf 23 ∧ Row.okWide Tryd.prog W .any base 23 cs := by
    simpa [Value.okWide, Tryd.underlying23] using hv
  rw [Tryd.cells23] at hsz
  obtain ⟨c0, c1, c2, c3, rfl⟩ := Go.Joins.array4 hsz
  obtain ⟨fuel, hf⟩ := h
  obtain ⟨y0, y1, y2, y3, m, hx, hy0, hy1, hy2, hy3⟩ := trod_array4 Tryd.underlying23 Tryd.cells22 hf
  obtain ⟨x0, e0, rfl, w0⟩ := DataW.trod_int Tryd.underlying22 hy0
  obtain ⟨x1, e1, rfl, w1⟩ := DataW.trod_int Tryd.underlying22 hy1
  obtain ⟨x2, e2, rfl, w2⟩ := DataW.trod_int Tryd.underlying22 hy2
  obtain ⟨x3, e3, rfl, w3⟩ := DataW.trod_int Tryd.underlying22 hy3
  simp at e0 e1 e2 e3
  subst e0 e1 e2 e3
  exact ⟨x0, x1, x2, x3, rfl⟩

/-- What the row's cell 'laid' gives: the three sentinels. -/
theorem sent_of_laid {W : World} (h : laidMetH Tryd.prog Rows.fnNotReachedErrorUnwrapsToItsErrRow.laid W) : ∃ a0 a1 a2, Sent a0 a1 a2 W := by
  rw [MakeChecks.laidMetH_plain _ _ _ (by kernel_rfl)] at h
  obtain ⟨a2, a0, a1, c2, c0, c1, n20, n21, n01, b2, b0, b1⟩ := laid_three (g0 := 2) (g1 := 0) (g2 := 1) h (by kernel_rfl) Tryd.gType2 (by kernel_rfl) Tryd.gType0 (by kernel_rfl) Tryd.gType1 Tryd.underlying27 Tryd.row71 Tryd.underlying71 Tryd.underlying98 rfl rfl Tryd.underlying9 Tryd.cells98 Tryd.cells9
  exact ⟨a0, a1, a2, c0, c1, c2, b0, b1, b2, n01, n20.symm, n21.symm⟩

set_option maxRecDepth 100000 in
theorem row_lifted (os : Os) (started : os.Started) (H : Type) (enc : TypeId × Value → H) :
    ReturnsInHanded {} Tryd.checked os 3 .any (fun w args => (Rows.fnNotReachedErrorUnwrapsToItsErrSpec.pre enc Tryd.prog Tryd.f3 [] false w args ∧ laidMetH Tryd.prog Rows.fnNotReachedErrorUnwrapsToItsErrRow.laid w) ∧ sizedMet enc Tryd.prog Tryd.f3 (OpenSpec.ofChange Rows.fnNotReachedErrorUnwrapsToItsErrSpec) false w args)
      (Rows.fnNotReachedErrorUnwrapsToItsErrSpec.post enc Tryd.prog Tryd.f3 false true false false) := by
  refine returnsInHanded_of_change_and (C := Tryd.checked) (X := fun w _ => laidMetH Tryd.prog Rows.fnNotReachedErrorUnwrapsToItsErrRow.laid w) (fun _ _ _ hh h => h.of_heap hh) Tryd.own started (by kernel_rfl) Tryd.func3
    (ChangeSpec.witness_shaped (enc := enc) (C := Tryd.checked) (os := os) (X := fun w _ => laidMetH Tryd.prog Rows.fnNotReachedErrorUnwrapsToItsErrRow.laid w) false (World.laidAll Tryd.prog os Rows.fnNotReachedErrorUnwrapsToItsErrRow.laid)
      #[.bool false, .agg #[.int .u64 0, .int .u64 0, .int .u64 0, .int .u64 0], .bool false, .agg #[.int .u64 0, .int .u64 0, .int .u64 0, .int .u64 0], .int .i64 0] 8 (World.laidAll_os _ _ _)
      (World.shaped_of_ZipB (by kernel_rfl) (by kernel_rfl)) (by kernel_rfl) (by kernel_rfl) (by kernel_rfl)
      (by rw [MakeChecks.laidMetH_plain _ _ _ (by kernel_rfl)]; exact laidMet_laidAll _ (by kernel_rfl) (by kernel_rfl))) ?_
  intro W base args ds gs before hval0 hW _ _ hL _
  have hval : ∀ (j : Nat) t v, Tryd.f3.params[j]? = some t → args[j]? = some v → Value.okWide Tryd.prog W .any base t v := hval0
  have hW' := hW
  have hlt := hW.lt
  obtain ⟨p, q, hA0, hV0, rfl, hfz, hnd⟩ := hW
  have hA : DataW.TrodAll enc Tryd.prog W 0 (fun _ => true) true Tryd.f3.params.toList args.toList ds p := hA0
  have hV : DataW.TrodVars enc Tryd.prog W (fun _ => true) Rows.fnNotReachedErrorUnwrapsToItsErrSpec.vars gs q := hV0
  have hAll := hA
  rw [Tryd.params3] at hA hval
  obtain ⟨v0, vs0, d0, ds0, p0, q0, hargs, rfl, rfl, h0, r0⟩ := trodAll_cons hA
  obtain ⟨v1, vs1, d1, ds1, p1, q1, rfl, rfl, rfl, h1, r1⟩ := trodAll_cons r0
  obtain ⟨v2, vs2, d2, ds2, p2, q2, rfl, rfl, rfl, h2, r2⟩ := trodAll_cons r1
  obtain ⟨v3, vs3, d3, ds3, p3, q3, rfl, rfl, rfl, h3, r3⟩ := trodAll_cons r2
  obtain ⟨v4, vs4, d4, ds4, p4, q4, rfl, rfl, rfl, h4, r4⟩ := trodAll_cons r3
  obtain ⟨rfl, rfl, rfl⟩ := trodAll_nil r4
  obtain ⟨args⟩ := args
  simp only at hargs
  subst hargs
  obtain ⟨uNil, rfl, e0, _⟩ := open_bool Tryd.underlying4 (hval 0 4 v0 rfl rfl) h0
  obtain ⟨u0, u1, u2, u3, rfl⟩ := open_words (hval 1 23 v1 rfl rfl) h1
  obtain ⟨vNil, rfl, e2, _⟩ := open_bool Tryd.underlying4 (hval 2 4 v2 rfl rfl) h2
  obtain ⟨w0, w1, w2, w3, rfl⟩ := open_words (hval 3 23 v3 rfl rfl) h3
  obtain ⟨kind, rfl, e4, _, _⟩ := open_int Tryd.underlying3 (hval 4 3 v4 rfl rfl) h4
  obtain ⟨a0, a1, a2, hS⟩ := sent_of_laid hL
  obtain ⟨g0, g1, g2, rfl⟩ : ∃ g0 g1 g2, gs = [g0, g1, g2] := by
    match gs, hV with
    | [g0, g1, g2], _ => exact ⟨g0, g1, g2, rfl⟩
    | [], h => exact h.elim
    | [_], ⟨_, _, _, _, _, _, _, _, _, _, h, _⟩ => exact h.elim
    | [_, _], ⟨_, _, _, _, _, _, _, _, _, _, ⟨_, _, _, _, _, _, _, _, _, _, h, _⟩, _⟩ => exact h.elim
    | _ :: _ :: _ :: _ :: _, ⟨_, _, _, _, _, _, _, _, _, _, ⟨_, _, _, _, _, _, _, _, _, _, ⟨_, _, _, _, _, _, _, _, _, _, h, _⟩, _⟩, _⟩ => exact h.elim
  have e1 : Rows.fnNotReachedErrorUnwrapsToItsErrSpec.fn H ([d0, d1, d2, d3, d4] ++ [g0, g1, g2]) = { results := [.lit (.bool true)], args := [d0, d1, d2, d3, d4], vars := [g0, g1, g2] } := rfl
  refine (law_any a0 a1 a2 uNil vNil u0 u1 u2 u3 w0 w1 w2 w3 kind W hS).mono fun e W' ⟨he, hb⟩ => ?_
  subst he
  refine ⟨_, rfl, _, _, _, [], p0 ++ (p1 ++ (p2 ++ (p3 ++ (p4 ++ [])))), q, hW', ?_, ?_, ?_, hb.frame _, fun h => by cases h⟩
  · rw [e1]; exact trodAll_mk1 (shut_bool Tryd.underlying4 true)
  · rw [e1]; exact below_trodAll Tryd.laidOut hb (by kernel_rfl) hAll (fun x hx => hlt x (List.mem_append_left _ hx))
  · rw [e1]; exact Below.trodVars Tryd.laidOut hb (by kernel_rfl) hV

theorem row_holds : Rows.FnNotReachedErrorUnwrapsToItsErrSaid :=
  OpenClaim.holds_of_wide 3 Tryd.f3 rfl rfl rfl rfl rfl rfl rfl ⟨rfl, rfl, rfl, rfl, rfl⟩ rfl rfl rfl rfl rfl (by kernel_rfl) Tryd.func3 (by kernel_rfl)
    (of_decide_eq_true (by kernel_rfl)) (by unfold Func.isWrapper; rw [if_neg (of_decide_eq_false (by kernel_rfl))]; exact ⟨rfl, rfl⟩)
    (fun os started H enc _ => row_lifted os started H enc)

/-- The tied card. -/
theorem card_holds : Rows.FnNotReachedErrorUnwrapsToItsErrCardSaid :=
  Claim7.holds_tied_plain_at .later [] [.sentinel, .sentinel, .sentinel] true (true, "7ee8f392186803abab80e45083f7fffaf7b4a9316c55d9ecfd3a0468b78484a7") true
    row_holds (fun _ h => by cases h) (by kernel_rfl) (fun _ h => by cases h) fnNotReachedErrorUnwrapsToItsErr_row_tie rfl ⟨rfl, rfl⟩ (by kernel_rfl) rfl
    (fun f fn hf hfn => by
      obtain rfl : f = 3 := Option.some.inj ((show Tryd.prog.funcNamed Rows.fnNotReachedErrorUnwrapsToItsErrRow.func = some 3 by kernel_rfl).symm.trans hf) |>.symm
      obtain rfl : fn = Tryd.f3 := (Option.some.inj (Tryd.func3.symm.trans hfn)).symm
      exact ⟨by kernel_rfl, fun j t ht => by
        rw [Tryd.params3] at ht
        have hm : t ∈ [4, 23, 4, 23, 3] := by simpa using Array.mem_of_getElem? ht
        have hall : ([4, 23, 4, 23, 3].all fun u => !Tryd.prog.wantsStandIn u) = true := by kernel_rfl
        exact (show Tryd.prog.wantsStandIn t = false by simpa using List.all_eq_true.1 hall t hm)⟩)
    (by kernel_rfl)

end Go.Proofs.Qxb6614198aDoor
