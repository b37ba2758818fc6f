/-
  DERIVED. Seat b6615160aD: the row's statement, and the tied card.
-/
import Derived.Test.Qxb6615160aDoorWalkE
import Derived.Test.Qxb6615160aDoorTie
import Derived.Test.Qxb6615160aDoorCards
import Derived.ProofKit
import Derived.LaidMore
import Derived.OpenShut
import Derived.Stop.Joined
import Derived.Deep.Strs
import Derived.WalkSmall
import Derived.ChangeVars
import Derived.OpenVars
import Derived.SevenTiedAt
namespace Go.Proofs.Qxb6615160aDoor
open Go.ChangeShapes Go.WideShapes Go.ChangeAt Go.RowKit
open Go.Deep
set_option linter.unusedVariables false

theorem own : ownKnob Tryd.prog.godebug = none := by kernel_rfl
theorem laidOut : laidOutB Tryd.prog = true := by kernel_rfl
/-- The listed variable's name, as the given row has it. -/
abbrev vname : String := Rows.fnArgWalkSplitStepAlikeSpec.vars.headD default
theorem gRules : Tryd.prog.globalNamed vname = some 0 := by kernel_rfl
theorem tRules : (Tryd.prog.globals[0]?).map (·.type) = some 47 := by kernel_rfl
theorem cells45 : Tryd.prog.cellsOf 45 = 3 := by kernel_rfl
theorem cells47 : Tryd.prog.cellsOf 47 = 15 := by kernel_rfl
theorem cells3 : Tryd.prog.cellsOf 3 = 1 := by kernel_rfl

abbrev laid1 : List (String × DataW Unit) := [(vname, Rows.laid_example_com_penelope_penelope_argChangeRules)]

/-- One rule's three cells, off its datum. -/
theorem rule_cells {H : Type} {enc : TypeId × Value → H} {W : World} {base : Nat} {sp : Nat → Bool} {held : Bool} {m : Nat} {l : List Value} {y : DataW H × List MemPlace} {a b c : Int}
    (h : DataW.trod enc Tryd.prog W base sp held m 45 l = some y) (hy : y.1 = .agg [.lit (.int .i64 a), .lit (.int .i64 b), .lit (.int .i64 c)]) : l = [.int .i64 a, .int .i64 b, .int .i64 c] := by
  obtain ⟨y0, y1, y2, n, rfl, hl, h0, h1, h2⟩ := trod_struct3 Tryd.underlying45 h
  rw [cells45] at hl
  simp only [DataW.agg.injEq, List.cons.injEq, and_true] at hy
  obtain ⟨k0, e0, rfl, _⟩ := DataW.trod_int Tryd.underlying3 h0
  obtain ⟨k1, e1, rfl, _⟩ := DataW.trod_int Tryd.underlying3 h1
  obtain ⟨k2, e2, rfl, _⟩ := DataW.trod_int Tryd.underlying3 h2
  match l, hl with
  | [v0, v1, v2], _ =>
    simp [cells3] at e0 e1 e2 hy
    obtain ⟨rfl, rfl, rfl⟩ := hy
    rw [e0, e1, e2]

theorem at_of {cs : List Value} {n : Nat} {v0 v1 v2 : Value} (h : (cs.drop n).take 3 = [v0, v1, v2]) : cs[n]? = some v0 ∧ cs[n + 1]? = some v1 ∧ cs[n + 2]? = some v2 := by
  have e : ∀ i, i < 3 → cs[n + i]? = [v0, v1, v2][i]? := fun i hi => by
    rw [← h, List.getElem?_take_of_lt hi, List.getElem?_drop]
  exact ⟨e 0 (by omega), e 1 (by omega), e 2 (by omega)⟩

/-- What the condition gives the walk. -/
theorem tab_of {W : World} (h : laidMetH Tryd.prog laid1 W) : Tab W := by
  rw [MakeChecks.laidMetH_plain _ _ _ (by kernel_rfl)] at h
  obtain ⟨ps, ⟨g0, t0, cs0, f0, p0, q0, hg0, ht0, hv0, hd0, _, _⟩, _, _⟩ := h
  obtain rfl := Option.some.inj (gRules.symm.trans hg0)
  obtain rfl := Option.some.inj (tRules.symm.trans ht0)
  obtain ⟨xs, m, rfl, hx, hlen, hn, hel⟩ := DataW.trod_array Tryd.underlying47 hd0
  simp only [Rows.laid_example_com_penelope_penelope_argChangeRules, Prod.mk.injEq, DataW.agg.injEq] at hx
  have hx1 := hx.1
  have hcell : ∀ i, W.cell? ⟨0, i, none⟩ = cs0.toList[i]? := fun i => by rw [World.var?_cell hg0 hv0 i]; simp
  match xs, hn with
  | [x0, x1, x2, x3, x4], _ =>
    simp only [List.map_cons, List.map_nil, List.cons.injEq, and_true] at hx1
    obtain ⟨d0, d1, d2, d3, d4⟩ := hx1
    have r0 := at_of (n := 0 * 3) (rule_cells (show DataW.trod _ Tryd.prog W 0 _ false m 45 _ = some x0 by have := hel 0 (by decide); rw [cells45] at this; exact this) d0.symm)
    have r1 := at_of (n := 1 * 3) (rule_cells (show DataW.trod _ Tryd.prog W 0 _ false m 45 _ = some x1 by have := hel 1 (by decide); rw [cells45] at this; exact this) d1.symm)
    have r2 := at_of (n := 2 * 3) (rule_cells (show DataW.trod _ Tryd.prog W 0 _ false m 45 _ = some x2 by have := hel 2 (by decide); rw [cells45] at this; exact this) d2.symm)
    have r3 := at_of (n := 3 * 3) (rule_cells (show DataW.trod _ Tryd.prog W 0 _ false m 45 _ = some x3 by have := hel 3 (by decide); rw [cells45] at this; exact this) d3.symm)
    have r4 := at_of (n := 4 * 3) (rule_cells (show DataW.trod _ Tryd.prog W 0 _ false m 45 _ = some x4 by have := hel 4 (by decide); rw [cells45] at this; exact this) d4.symm)
    intro c hc
    simp only [hcell]
    rcases (show c = 0 ∨ c = 1 ∨ c = 2 ∨ c = 3 ∨ c = 4 by omega) with rfl | rfl | rfl | rfl | rfl
    · exact ⟨_, _, r0.1, r0.2.1, r0.2.2⟩
    · exact ⟨_, _, r1.1, r1.2.1, r1.2.2⟩
    · exact ⟨_, _, r2.1, r2.2.1, r2.2.2⟩
    · exact ⟨_, _, r3.1, r3.2.1, r3.2.2⟩
    · exact ⟨_, _, r4.1, r4.2.1, r4.2.2⟩

theorem row_take {k : IntKind} {W : World} {x : Addr} {len cap : Nat} {zs : List Int} (hz : zs.length = cap) (hl : len ≤ cap) (hm : cap ≤ maxLen) (hcell : ∀ i, i < zs.length → W.cell? (x.add i) = some (.int k (zs.getD i 0))) (hwz : ∀ n ∈ zs, (Lit.int k n).wf = true) : IsRow k W (some x) len cap (zs.take len) := by
  refine .inr ⟨x, rfl, hl, hm, by rw [List.length_take]; omega, fun i hi => ?_, fun n hn => hwz n (List.mem_of_mem_take hn)⟩
  rw [show (zs.take len).getD i 0 = zs.getD i 0 by rw [List.getD_eq_getElem?_getD, List.getD_eq_getElem?_getD, List.getElem?_take_of_lt hi]]
  exact hcell i (by omega)
theorem u8_nonneg {W : World} {a : Option Addr} {len cap : Nat} {zs : List Int} (h : IsRow .u8 W a len cap zs) : ∀ n ∈ zs, 0 ≤ n := by
  rcases h with ⟨-, -, -, rfl⟩ | ⟨x, -, -, -, -, -, hw⟩
  · intro n hn; cases hn
  · intro n hn; exact (bounds_u8 (hw n hn)).1

/-- The door's own heap meets the condition. -/
theorem door_met (os : Os) (args : Array Value) : laidMetH Tryd.prog laid1 ((World.doorLaid Tryd.prog 400 os).forCall (fun _ _ => 0) ⟨#[], args, []⟩).memory :=
  laidMetH_of_parts3 (fuel := 8) (laidMet_of_run' 8 (by kernel_rfl) (by kernel_rfl)) (by kernel_rfl) (by kernel_rfl)

set_option maxRecDepth 100000 in
theorem lifted (os : Os) (started : os.Started) (H : Type) (enc : TypeId × Value → H) :
    ReturnsInHanded {} Tryd.checked os 4 .any (fun w args => (Rows.fnArgWalkSplitStepAlikeSpec.pre enc Tryd.prog Tryd.f4 [] false w args ∧ laidMetH Tryd.prog laid1 w) ∧ sizedMet enc Tryd.prog Tryd.f4 (OpenSpec.ofChange Rows.fnArgWalkSplitStepAlikeSpec) false w args)
      (Rows.fnArgWalkSplitStepAlikeSpec.post enc Tryd.prog Tryd.f4 false true false false) := by
  refine returnsInHanded_of_change_and (C := Tryd.checked) (X := fun w _ => laidMetH Tryd.prog laid1 w) (fun _ _ _ hh h => h.of_heap hh) own started (by kernel_rfl) Tryd.func4
    (ChangeSpec.witness_shaped (enc := enc) (C := Tryd.checked) (os := os) (X := fun w _ => laidMetH Tryd.prog laid1 w) false (World.doorLaid Tryd.prog 400 os) #[.slice none 0 0, .slice none 0 0, .int .i64 0, .int .i64 0] 8 rfl (World.shaped_of_RefB (by kernel_rfl) (by kernel_rfl)) (by kernel_rfl) (by kernel_rfl) (by kernel_rfl) (door_met os _)) ?_
  intro W base args ds gs before hval0 hW _ _ hL _
  have hval : ∀ (j : Nat) t v, Tryd.f4.params[j]? = some t → args[j]? = some v → Value.okWide Tryd.prog W .any base t v := hval0
  have hW' := hW
  obtain ⟨p, q, hA0, hV0, rfl, hfz, hnd⟩ := hW
  have hA : DataW.TrodAll enc Tryd.prog W 0 (fun _ => true) true Tryd.f4.params.toList args.toList ds p := hA0
  have hV : DataW.TrodVars enc Tryd.prog W (fun _ => true) [vname] gs q := hV0
  rw [Tryd.params4] at hA hval
  obtain ⟨v0, vs0, d0, ds0, p0, q0, hargs, rfl, rfl, h0, r0⟩ := trodAll_cons hA
  obtain ⟨v1, vs1, d1, ds1, p1, q1, rfl, rfl, rfl, h1, r1⟩ := trodAll_cons r0
  obtain ⟨v2, vs2, d2, ds2, p2, q2, rfl, rfl, rfl, h2, r2⟩ := trodAll_cons r1
  obtain ⟨v3, vs3, d3, ds3, p3, q3, rfl, rfl, rfl, h3, r3⟩ := trodAll_cons r2
  obtain ⟨rfl, rfl, rfl⟩ := trodAll_nil r3
  obtain rfl : args = #[v0, v1, v2, v3] := by cases args; simp_all
  obtain ⟨dg, rfl⟩ : ∃ d, gs = [d] := by obtain ⟨g, t, cs, fuel, dg, pg, e, -⟩ := trodVars_one hV; exact ⟨dg, e⟩
  have hT := tab_of hL
  obtain ⟨a0, len0, cap0, rfl⟩ := okWide_slice Tryd.underlying22 (hval 0 22 v0 rfl rfl)
  obtain ⟨a1, len1, cap1, rfl⟩ := okWide_slice Tryd.underlying23 (hval 1 23 v1 rfl rfl)
  have k0 := h0
  have k1 := h1
  have lt0 : ∀ x ∈ p0, x.block < W.heap.size := by obtain ⟨m, hm⟩ := k0; exact DataW.trod_lt m _ _ _ hm
  have lt1 : ∀ x ∈ p1, x.block < W.heap.size := by obtain ⟨m, hm⟩ := k1; exact DataW.trod_lt m _ _ _ hm
  obtain ⟨z0, w0⟩ : ∃ zs, IsRow .u8 W a0 len0 cap0 zs := by
    obtain ⟨fuel, hf⟩ := h0
    rcases open_ints Tryd.underlying22 Tryd.underlying5 (by kernel_rfl) hf with ⟨hcs, _⟩ | ⟨x, l, c, zs, hcs, _, hl, hm, hz, _, hcell, hwz⟩
    · simp [Value.cells] at hcs
      obtain ⟨rfl, rfl, rfl⟩ := hcs
      exact ⟨[], .inl ⟨rfl, rfl, rfl, rfl⟩⟩
    · simp [Value.cells] at hcs
      obtain ⟨rfl, rfl, rfl⟩ := hcs
      exact ⟨_, row_take (by simpa using hz) hl hm hcell hwz⟩
  obtain ⟨z1, w1⟩ : ∃ zs, IsRow .i64 W a1 len1 cap1 zs := by
    obtain ⟨fuel, hf⟩ := h1
    rcases open_ints Tryd.underlying23 Tryd.underlying3 (by kernel_rfl) hf with ⟨hcs, _⟩ | ⟨x, l, c, zs, hcs, _, hl, hm, hz, _, hcell, hwz⟩
    · simp [Value.cells] at hcs
      obtain ⟨rfl, rfl, rfl⟩ := hcs
      exact ⟨[], .inl ⟨rfl, rfl, rfl, rfl⟩⟩
    · simp [Value.cells] at hcs
      obtain ⟨rfl, rfl, rfl⟩ := hcs
      exact ⟨_, row_take (by simpa using hz) hl hm hcell hwz⟩
  obtain ⟨x, rfl, rfl, rfl, w2⟩ := open_int Tryd.underlying3 (hval 2 3 v2 rfl rfl) h2
  obtain ⟨y, rfl, rfl, rfl, w3⟩ := open_int Tryd.underlying3 (hval 3 3 v3 rfl rfl) h3
  clear hA0 hval0
  refine (walk a0 a1 len0 cap0 len1 cap1 z0 z1 x y W w0 w1 (u8_nonneg w0) hT).mono fun e W' ⟨he, bel⟩ => ?_
  subst he
  exact ⟨_, rfl, _, _, _, [], _, _, hW', trodAll_mk1 (shut_bool Tryd.underlying4 _), (trodAll_cons_mk (Below.trod laidOut (by kernel_rfl) (of_decide_eq_true (by kernel_rfl)) k0 bel lt0) (trodAll_cons_mk (Below.trod laidOut (by kernel_rfl) (of_decide_eq_true (by kernel_rfl)) k1 bel lt1) (trodAll_cons_mk (shut_int Tryd.underlying3 w2) (trodAll_cons_mk (shut_int Tryd.underlying3 w3) trodAll_mk0)))), Below.trodVars laidOut bel (by kernel_rfl) hV, bel.frame _, fun h => by cases h⟩

theorem row_proved : Rows.FnArgWalkSplitStepAlikeSaid :=
  OpenClaim.holds_of_wide 4 Tryd.f4 rfl rfl rfl rfl rfl rfl rfl ⟨rfl, rfl, rfl, rfl, rfl⟩ rfl rfl rfl rfl rfl (by kernel_rfl) Tryd.func4 (by kernel_rfl)
    (of_decide_eq_true (by kernel_rfl)) (by unfold Func.isWrapper; first | (rw [if_pos (by decide +kernel)]; kernel_rfl) | (rw [if_neg (by decide +kernel)]; exact ⟨rfl, rfl⟩))
    (fun os started H enc _ => lifted os started H enc)

/-- The tied card. -/
theorem proved : Rows.FnArgWalkSplitStepAlikeCardSaid :=
  Claim7.holds_tied_plain_at .later [] [.data] true (true, "6081248bb6d4de58762830ce8877a1b6817444367db5af35230d38660f1d291d") false
    row_proved (fun _ h => by cases h) (by kernel_rfl) (fun _ h => by cases h) fnArgWalkSplitStepAlike_row_tie rfl ⟨rfl, rfl⟩ (by kernel_rfl) rfl
    (fun f fn hf hfn => by
      obtain rfl : f = 4 := Option.some.inj ((show Tryd.prog.funcNamed Rows.fnArgWalkSplitStepAlikeRow.func = some 4 by kernel_rfl).symm.trans hf) |>.symm
      obtain rfl : fn = Tryd.f4 := (Option.some.inj (Tryd.func4.symm.trans hfn)).symm
      exact ⟨by kernel_rfl, fun j t ht => by
        rw [Tryd.params4] at ht
        have hm : t ∈ [22, 23, 3, 3] := by simpa using Array.mem_of_getElem? ht
        have hall : ([22, 23, 3, 3].all fun u => !Tryd.prog.wantsStandIn u) = true := by kernel_rfl
        exact (show Tryd.prog.wantsStandIn t = false by simpa using List.all_eq_true.1 hall t hm)⟩)
    (by kernel_rfl)

end Go.Proofs.Qxb6615160aDoor
