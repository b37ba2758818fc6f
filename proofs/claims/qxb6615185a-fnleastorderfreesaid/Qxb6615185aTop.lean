/-
  DERIVED. Seat b6615185a: the statement.
-/
import Derived.Test.Qxb6615185aWalk9
import Derived.ProofKit
import Derived.OpenShut
import Derived.ChangeOld
import Derived.Deep.Slices
import Derived.Laws.Cover2
namespace Go.Proofs.Qxb6615185a
open Go.ChangeShapes Go.WideShapes Go.ChangeAt Go.RowKit
set_option linter.unusedVariables false

theorem own : ownKnob Try.prog.godebug = none := by kernel_rfl
theorem laidOut : laidOutB Try.prog = true := by kernel_rfl

theorem wf_lt {b : Nat} (h : (Lit.float .f64 b).wf = true) : b < 2 * 9223372036854775808 := by
  simp [Lit.wf] at h
  exact h

/-- What the walk is told of a slice of floats that came in. -/
def IsFloats (w : World) (a : Option Addr) (len cap : Nat) (xs : List Nat) : Prop :=
  xs.length = len ∧ (∀ j, xs.getD j 0 < 2 * 9223372036854775808) ∧ ((a = none ∧ len = 0 ∧ cap = 0) ∨ ∃ x, a = some x ∧ len ≤ cap ∧ cap ≤ maxLen ∧ ∀ j, j < len → w.cell? (x.add j) = some (.float .f64 (xs.getD j 0)))

theorem walk (a : Option Addr) (len cap : Nat) (xs : List Nat) (cut : Int) (t scale p R guess : Nat) (w : World) (hr : IsFloats w a len cap xs) (ht : t < 2 * 9223372036854775808) (hs : scale < 2 * 9223372036854775808) (hp : p < 2 * 9223372036854775808) (hR : R < 2 * 9223372036854775808) (hg : guess < 2 * 9223372036854775808) :
    Calls Try.prog 3 #[.slice a len cap, .int .i64 cut, .float .f64 t, .float .f64 scale, .float .f64 p, .float .f64 R, .float .f64 guess] w fun e w' => e = .returned (.bool true) ∧ Below w.heap.size w w' := by
  obtain ⟨hl, hxw, ⟨rfl, rfl, rfl⟩ | ⟨x, rfl, h1, h2, hc⟩⟩ := hr
  · have hx : xs = [] := List.length_eq_zero_iff.1 hl
    subst hx
    by_cases hcut : cut = 0
    · subst hcut
      exact nil_zero [] t scale p R guess w rfl (dom_nil none 0 t scale p R guess w ht hs hp hR hg)
    · exact nil_early cut t scale p R guess w hcut
  · refine main_some x len cap xs cut t scale p R guess w hl h1 h2 hc (fun h6 => ?_)
    subst hl
    refine dom_row (some x) cap xs t scale p R guess w h6 ?_ hxw ht hs hp hR hg
    by_cases h0 : xs = []
    · exact .inl h0
    · obtain ⟨b, off, spot⟩ := x
      have hc0 := hc 0 (by cases xs with
        | nil => exact absurd rfl h0
        | cons y l => simp)
      have hspot : spot = none := by simpa [Addr.add] using World.cell?_spot hc0
      subst hspot
      refine .inr ⟨b, off, rfl, fun j hj => ?_⟩
      have hadd : (⟨b, off, none⟩ : Addr).add j = ⟨b, off + j, none⟩ := by unfold Addr.add; split <;> simp_all
      rw [← hadd]
      exact hc j hj

section
variable {H : Type} {enc : TypeId × Value → H} {P : Program} {w : World} {base : Nat} {spare : Nat → Bool} {held : Bool}
theorem trod_float {t : TypeId} {k : FloatKind} {n : Nat} {v : Value} {x : DataW H × List MemPlace} (ht : P.underlying t = some (.float k)) (h : DataW.trod enc P w base spare held n t [v] = some x) : ∃ b, v = .float k b ∧ (Lit.float k b).wf = true := by
  cases n with
  | zero => simp [DataW.trod] at h
  | succ n =>
    simp only [DataW.trod, ht] at h
    split at h <;> simp_all
end

set_option maxRecDepth 100000 in
theorem lifted (os : Os) (started : os.Started) (H : Type) (enc : TypeId × Value → H) :
    ReturnsInHanded {} Try.checked os 3 .any (Rows.fnLeastOrderFreeSpec.pre6 enc Try.prog Try.f3 Rows.fnLeastOrderFreeRow.domain false) (Rows.fnLeastOrderFreeSpec.post enc Try.prog Try.f3 false true false false) := by
  refine returnsInHanded_of_change (C := Try.checked) own started (by kernel_rfl) Try.func3
    (ChangeSpec.witness6 (enc := enc) (C := Try.checked) false ⟨#[], #[.slice none 0 0, .int .i64 0, .float .f64 0, .float .f64 0, .float .f64 0, .float .f64 0, .float .f64 0], []⟩ 8 (by kernel_rfl) (by kernel_rfl) (by kernel_rfl) (by kernel_rfl)) ?_
  intro W base args ds gs before hval0 hW hcnd _
  have hval : ∀ (j : Nat) t v, Try.f3.params[j]? = some t → args[j]? = some v → Value.okWide Try.prog W .any base t v := hval0
  have hW' := hW
  obtain ⟨p, q, hA0, hV, rfl, hfz, hnd⟩ := hW
  have hA : DataW.TrodAll enc Try.prog W 0 (fun _ => true) true Try.f3.params.toList args.toList ds p := hA0
  rw [Try.params3] at hA hval
  obtain ⟨v0, vs0, d0, ds0, p0, q0, hargs, rfl, rfl, h0, r0⟩ := trodAll_cons hA
  obtain ⟨v1, vs1, d1, ds1, p1, q1, rfl, rfl, rfl, h1, r1⟩ := trodAll_cons r0
  obtain ⟨v2, vs2, d2, ds2, p2, q2, rfl, rfl, rfl, h2, r2⟩ := trodAll_cons r1
  obtain ⟨v3, vs3, d3, ds3, p3, q3, rfl, rfl, rfl, h3, r3⟩ := trodAll_cons r2
  obtain ⟨v4, vs4, d4, ds4, p4, q4, rfl, rfl, rfl, h4, r4⟩ := trodAll_cons r3
  obtain ⟨v5, vs5, d5, ds5, p5, q5, rfl, rfl, rfl, h5, r5⟩ := trodAll_cons r4
  obtain ⟨v6, vs6, d6, ds6, p6, q6, rfl, rfl, rfl, h6, r6⟩ := trodAll_cons r5
  obtain ⟨rfl, rfl, rfl⟩ := trodAll_nil r6
  obtain rfl : args = #[v0, v1, v2, v3, v4, v5, v6] := by cases args; simp_all
  obtain ⟨rfl, rfl⟩ := trodVars_none hV
  obtain ⟨a0, len0, cap0, rfl⟩ := okWide_slice Try.underlying22 (hval 0 22 v0 rfl rfl)
  have k0 := h0
  have lt0 : ∀ x ∈ p0, x.block < W.heap.size := by obtain ⟨m, hm⟩ := k0; exact DataW.trod_lt m _ _ _ hm
  obtain ⟨xs, w0⟩ : ∃ xs, IsFloats W a0 len0 cap0 xs := by
    obtain ⟨fuel, hf⟩ := h0
    rcases Deep.open_slice1 Try.underlying22 (by kernel_rfl) hf with ⟨hcs, _⟩ | ⟨x, l, cp, m, n, V, D, Pl, hcs, _, hl, hm, hmm, _, hcell⟩
    · simp [Value.cells] at hcs
      obtain ⟨rfl, rfl, rfl⟩ := hcs
      exact ⟨[], rfl, fun j => by simp, .inl ⟨rfl, rfl, rfl⟩⟩
    · simp [Value.cells] at hcs
      obtain ⟨rfl, rfl, rfl⟩ := hcs
      have hmc : m = cap0 := by simpa using hmm
      have hb : ∀ i, i < len0 → ∃ b, V i = .float .f64 b ∧ b < 2 * 9223372036854775808 := fun i hi => by
        obtain ⟨b, e, hw⟩ := trod_float Try.underlying23 (hcell i (by omega)).2
        exact ⟨b, e, wf_lt hw⟩
      have hget : ∀ j, j < len0 → ((List.range len0).map fun i => match V i with | .float _ b => b | _ => 0).getD j 0 = (match V j with | .float _ b => b | _ => 0) := fun j hj => by
        rw [List.getD_eq_getElem?_getD, List.getElem?_map, List.getElem?_range hj]; rfl
      refine ⟨(List.range len0).map fun i => match V i with | .float _ b => b | _ => 0, by simp, fun j => ?_, .inr ⟨_, rfl, hl, hm, fun j hj => ?_⟩⟩
      · by_cases hj : j < len0
        · rw [hget j hj]
          obtain ⟨b, e, hw⟩ := hb j hj
          rw [e]; exact hw
        · rw [List.getD_eq_getElem?_getD, List.getElem?_eq_none (by simp; omega)]
          simp
      · rw [hget j hj]
        obtain ⟨b, e, hw⟩ := hb j hj
        have := (hcell j (by omega)).1
        rw [e] at this ⊢
        exact this
  obtain ⟨c, rfl, rfl, rfl, w1⟩ := open_int Try.underlying3 (hval 1 3 v1 rfl rfl) h1
  obtain ⟨t, rfl, rfl, rfl, w2⟩ := open_float Try.underlying23 (hval 2 23 v2 rfl rfl) h2
  obtain ⟨scale, rfl, rfl, rfl, w3⟩ := open_float Try.underlying23 (hval 3 23 v3 rfl rfl) h3
  obtain ⟨pp, rfl, rfl, rfl, w4⟩ := open_float Try.underlying23 (hval 4 23 v4 rfl rfl) h4
  obtain ⟨R, rfl, rfl, rfl, w5⟩ := open_float Try.underlying23 (hval 5 23 v5 rfl rfl) h5
  obtain ⟨guess, rfl, rfl, rfl, w6⟩ := open_float Try.underlying23 (hval 6 23 v6 rfl rfl) h6
  clear hA0 hval0
  refine (walk a0 len0 cap0 xs c t scale pp R guess W w0 (wf_lt w2) (wf_lt w3) (wf_lt w4) (wf_lt w5) (wf_lt w6)).mono fun e W' ⟨he, bel⟩ => ?_
  subst he
  exact ⟨_, rfl, _, _, _, [], _, [], hW', trodAll_mk1 (shut_bool Try.underlying4 _), (trodAll_cons_mk (Below.trod laidOut (by kernel_rfl) (of_decide_eq_true (by kernel_rfl)) k0 bel lt0) (trodAll_cons_mk (shut_int Try.underlying3 w1) (trodAll_cons_mk (shut_float Try.underlying23 w2) (trodAll_cons_mk (shut_float Try.underlying23 w3) (trodAll_cons_mk (shut_float Try.underlying23 w4) (trodAll_cons_mk (shut_float Try.underlying23 w5) (trodAll_cons_mk (shut_float Try.underlying23 w6) trodAll_mk0))))))), rfl, bel.frame _, fun h => by cases h⟩

theorem proved : Rows.FnLeastOrderFreeSaid :=
  OpenClaim.holds_of_wide 3 Try.f3 rfl rfl rfl rfl rfl rfl rfl ⟨rfl, rfl, rfl, rfl, rfl⟩ rfl rfl rfl rfl rfl (by kernel_rfl) Try.func3 (by kernel_rfl)
    (of_decide_eq_true (by kernel_rfl)) (by unfold Func.isWrapper; first | (rw [if_pos (by decide +kernel)]; kernel_rfl) | (rw [if_neg (by decide +kernel)]; exact ⟨rfl, rfl⟩))
    (fun os started H enc _ => lifted os started H enc)

end Go.Proofs.Qxb6615185a
