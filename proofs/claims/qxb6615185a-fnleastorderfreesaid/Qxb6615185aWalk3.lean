/-
  DERIVED. Seat b6615185a: the walk of 'leastAt'.
-/
import Derived.Test.Qxb6615185aWalk2
import Derived.Deep.LoopGhost
namespace Go.Proofs.Qxb6615185a
open Go.RowKit
open Ieee (double Datum)
set_option linter.unusedVariables false

/-- The world is as it was but for draws. -/
structure SameW (w wr : World) : Prop where
  heap : wr.heap = w.heap
  os : wr.os = w.os
  tape : wr.tape = w.tape
  output : wr.output = w.output
theorem SameW.refl (w : World) : SameW w w := ⟨rfl, rfl, rfl, rfl⟩
theorem SameW.drew {w wr : World} (h : SameW w wr) : SameW w wr.drew := ⟨h.heap, h.os, h.tape, h.output⟩
theorem SameW.below {w wr : World} (h : SameW w wr) : Below w.heap.size w wr := ⟨h.os, h.tape, h.output, by rw [h.heap]; exact Nat.le_refl _, fun k hk => by rw [h.heap]⟩
theorem SameW.cell {w wr : World} (h : SameW w wr) (p : Addr) : wr.cell? p = w.cell? p := World.cell?_of_block (w := w) (by rw [h.heap])

theorem eq0_of (x : Nat) (hx : x ≤ 9218868437227405312) : (double.order x 0 == some .eq) = decide (x = 0) := by
  rw [order_pos x 0 hx (by omega)]
  by_cases h : x = 0
  · rw [cmpN_eq h]; simp [h]
  · rw [cmpN_gt (by omega)]; simp [h]

theorem add_up (up step : Nat) (hu : up < 9218868437227405312) (hs : step ≤ 9218868437227405312) : up ≤ addW up step := by
  by_cases h : step = 9218868437227405312
  · rw [(add_any up step hu hs).2.2 h]; omega
  · obtain ⟨r, hr, _, lb, _⟩ := add_pos up step hu (by omega)
    have e : addW up step = r := by unfold addW; rw [hr]; rfl
    rw [e]; exact lb up (by omega) (by omega)

set_option maxHeartbeats 4000000 in
set_option maxRecDepth 20000 in
theorem least_walk (F : Nat → Nat) (scale limit guess a0 st0 n1 n2 n3 r : Nat) (q1 q2 q3 : Value) (w : World) (hg : guess ≤ 9218868437227405312 ∨ (9223372036854775808 ≤ guess ∧ guess ≤ 9223372036854775808 + 9218868437227405312)) (ha0 : min (gm guess) limit = a0)
    (hd1 : double.div a0 4632233691727265792 = some (divW a0 4632233691727265792)) (hd1I : divW a0 4632233691727265792 ≤ 9218868437227405312) (hd2 : double.div scale 4652007308841189376 = some (divW scale 4652007308841189376)) (hd2I : divW scale 4652007308841189376 ≤ 9218868437227405312) (hst : max (divW a0 4632233691727265792) (divW scale 4652007308841189376) = st0)
    (hlim : limit < 9214364837600034816) (hs0 : 4503599627370496 ≤ scale) (hs : scale < 9218868437227405312) (hst0 : 0 < st0)
    (hFin : ∀ a, a ≤ limit → FinW (F a)) (HF : ∀ a, a ≤ limit → ∀ W, SameW w W → Calls Try.prog 15 #[.float .f64 a, q1, q2, q3] W fun e w' => e = .returned (.float .f64 (F a)) ∧ W = w')
    (H : leastN F scale limit a0 st0 n1 n2 n3 = some r) :
    Calls Try.prog 18 #[.func (Fn.func 15) #[] #[q1, q2, q3], .float .f64 scale, .float .f64 limit, .float .f64 guess] w fun e w' => e = .returned (.float .f64 r) ∧ SameW w w' := by
  have hf := fmt64
  have r1 := fun ts ty W => run_max_guess guess hg ts ty W
  have hgm : gm guess ≤ 9218868437227405312 := by unfold gm; split <;> omega
  have r2 := fun ts ty W => run_min_pos (gm guess) limit hgm (by omega) ts ty W
  simp only [ha0] at r2
  have r3 := run_div hd1
  have r4 := run_div hd2
  have r5 := fun ts ty W => run_max_pos (divW a0 4632233691727265792) (divW scale 4652007308841189376) hd1I hd2I ts ty W
  simp only [hst] at r5
  have hal : a0 ≤ limit := by omega
  have hstI : st0 ≤ 9218868437227405312 := by omega
  have HFH : Hid _ := HF
  have HFin : Hid _ := hFin
  have HH : Hid _ := H
  clear HF hFin H ha0 hst hg hgm hd1 hd2
  cases hd : downN F n1 a0 a0 (F a0) (F a0) st0 with
  | none => have := HH.out; unfold leastN at this; rw [hd] at this; cases this
  | some res =>
  have HD : Hid _ := hd
  have hd0 : Hid _ := hd
  clear hd
  go_enter Try.func18, Try.ntmps18
  go_wp2_with fail
  refine Calls.mono (HFH.out a0 hal _ (SameW.refl _)) ?_
  rintro e w' ⟨rfl, rfl⟩
  go_wp2_with fail
  go_loopg [10, 11, 12, 13, 14] n1 (fun gk lo up flo fup st wr => ∃ l u fl fu sp : Nat, lo = .float .f64 l ∧ up = .float .f64 u ∧ flo = .float .f64 fl ∧ fup = .float .f64 fu ∧ st = .float .f64 sp ∧ w = wr ∧ Hid (downN F gk l u fl fu sp = some res ∧ l ≤ u ∧ u ≤ limit ∧ sp ≤ 9218868437227405312 ∧ FinW fl ∧ FinW fu))
  case atStart => exact ⟨_, _, _, _, _, rfl, rfl, rfl, rfl, rfl, rfl, HD.out, Nat.le_refl _, hal, hstI, HFin.out a0 hal, HFin.out a0 hal⟩
  case round =>
    obtain ⟨l, u, fl, fu, sp, rfl, rfl, rfl, rfl, rfl, rfl, hrl⟩ := hrel
    obtain ⟨hdn, hlu, hul, hsp, hfl, hfu⟩ := hrl.out
    cases gk with
    | zero => cases hdn
    | succ gk =>
    rw [downN] at hdn
    clear HD hrl r1 r2 r3 r4 r5
    by_cases hge : ge0 fl = true
    · rw [if_pos hge] at hdn
      have hge' := hge
      unfold ge0 at hge'
      have heq := eq0_of l (by omega)
      by_cases h0 : l = 0
      · rw [if_pos h0] at hdn
        have hr : r = 0 := by
          have := HH.out; unfold leastN at this; rw [hd0.out, ← Option.some.inj hdn] at this
          exact (Option.some.inj this).symm
        have heq' : (double.order l 0 == some .eq) = true := by rw [heq]; simp [h0]
        clear heq hdn hge
        have HR : Hid _ := hr
        clear hr
        have H0 : Hid _ := h0
        clear h0
        go_wp2
        go_ret
        exact ⟨by rw [HR.out]; rfl, SameW.refl _⟩
      · rw [if_neg h0] at hdn
        have heq' : (double.order l 0 == some .eq) = false := by rw [heq]; simp [h0]
        obtain ⟨d1, d2, d3, d4⟩ := dn_le l sp (by omega) hsp
        obtain ⟨m0, m1, m2, m3, m4⟩ := step_any' sp hsp
        have k1 := run_sub d3
        have k2 := fun ts ty W => run_max_dn l sp (by omega) hsp ts ty W
        have k3 := run_mul m0
        have HN : Hid _ := hdn
        clear hdn heq hge d2 d3 d4 m0 m2 m3 m4 h0
        go_wp2_with fail
        refine Calls.mono (HFH.out (dn l sp) (by omega) _ (SameW.refl _)) ?_
        rintro e w' ⟨rfl, rfl⟩
        go_wp2
        go_roundg gk
        case measure => omega
        case rel => exact ⟨_, _, _, _, _, rfl, rfl, rfl, rfl, rfl, rfl, HN.out, d1, by omega, m1, HFin.out _ (by omega), hfl⟩
    · rw [if_neg hge] at hdn
      have hge' : ge0 fl = false := by simpa using hge
      unfold ge0 at hge'
      have HX : Hid (leastN F scale limit a0 st0 n1 n2 n3 = some r ∧ downN F n1 a0 a0 (F a0) (F a0) st0 = some (false, l, u, fl, fu, sp)) := ⟨HH.out, by rw [hd0.out, ← hdn]⟩
      have hY : (if lt0 fu && lt0 (F limit) then some 9218868437227405312 else match upN F limit n2 l u fl fu sp with | none => none | some (lo, up, flo, fup) => loopN F scale n3 lo up flo fup 0) = some r := by
        have := HX.out.1; unfold leastN at this; rw [HX.out.2] at this; exact this
      clear hdn hge HX HH hd0
      have hlf : lt0 fu = true ∨ lt0 fu = false := by cases lt0 fu <;> simp
      have go_on : (lt0 fu && lt0 (F limit)) = false → ∃ lo up flo fup, upN F limit n2 l u fl fu sp = some (lo, up, flo, fup) ∧ loopN F scale n3 lo up flo fup 0 = some r := by
        intro hb
        rw [hb] at hY
        simp only [Bool.false_eq_true, if_false] at hY
        cases hup : upN F limit n2 l u fl fu sp with
        | none => rw [hup] at hY; cases hY
        | some q => obtain ⟨lo, up, flo, fup⟩ := q; rw [hup] at hY; exact ⟨lo, up, flo, fup, rfl, hY⟩
      have HGo : Hid _ := go_on
      have HY : Hid _ := hY
      clear go_on hY
      rcases hlf with hlf | hlf
      · have hlf' := hlf
        unfold lt0 at hlf'
        have HLF : Hid _ := hlf
        clear hlf
        go_wp2_with fail
        refine Calls.mono (HFH.out limit (Nat.le_refl _) _ (SameW.refl _)) ?_
        rintro e w' ⟨rfl, rfl⟩
        by_cases hll : lt0 (F limit) = true
        · have hr : r = 9218868437227405312 := by
            have := HY.out; rw [HLF.out, hll] at this
            simpa using this.symm
          have hll' := hll
          unfold lt0 at hll'
          have HR : Hid _ := hr
          clear hr hll HY HGo
          go_wp2_with fail
          refine (inf_any _).mono ?_
          rintro e w' ⟨rfl, rfl⟩
          go_wp2
          go_ret
          exact ⟨by rw [HR.out]; rfl, SameW.refl _⟩
        · have hll'' : lt0 (F limit) = false := by simpa using hll
          have hll' := hll''
          unfold lt0 at hll'
          have HU : Hid _ := HGo.out (by rw [hll'', Bool.and_false])
          clear hll hll'' HY HGo
          go_wp2_with fail
          obtain ⟨lo2, up2, flo2, fup2, HU1, HU2⟩ := HU.out
          have HUa : Hid _ := HU1
          have HUb : Hid _ := HU2
          have HFL : Hid _ := hfl
          have HFU : Hid _ := hfu
          clear HU1 HU2 HU hfl hfu hge'
          go_loopg [10, 11, 12, 13, 14] n2 (fun gk lo up flo fup st wr => ∃ l u fl fu sp : Nat, lo = .float .f64 l ∧ up = .float .f64 u ∧ flo = .float .f64 fl ∧ fup = .float .f64 fu ∧ st = .float .f64 sp ∧ w = wr ∧ Hid (upN F limit gk l u fl fu sp = some (lo2, up2, flo2, fup2) ∧ l ≤ u ∧ u ≤ limit ∧ sp ≤ 9218868437227405312 ∧ FinW fl ∧ FinW fu))
          case atStart => exact ⟨_, _, _, _, _, rfl, rfl, rfl, rfl, rfl, rfl, HUa.out, hlu, hul, hsp, HFL.out, HFU.out⟩
          case round =>
            clear HUa hlu hul hsp HFL HFU
            obtain ⟨l, u, fl, fu, sp, rfl, rfl, rfl, rfl, rfl, rfl, hrl⟩ := hrel
            obtain ⟨hup, hlu, hul, hsp, hfl0, hfu0⟩ := hrl.out
            have hfl : Hid _ := hfl0
            have hfu : Hid _ := hfu0
            clear hfl0 hfu0 hrl
            cases gk with
            | zero => cases hup
            | succ gk =>
            rw [upN] at hup
            by_cases hlt : lt0 fu = true
            · rw [if_pos hlt] at hup
              have hlt' := hlt
              unfold lt0 at hlt'
              obtain ⟨ad1, ad2, ad3⟩ := add_any u sp (by omega) hsp
              have ad4 := add_up u sp (by omega) hsp
              obtain ⟨m0, m1, m2, m3, m4⟩ := step_any' sp hsp
              have k1 := run_add ad1
              have k2 := fun ts ty W => run_min_pos limit (addW u sp) (by omega) ad2 ts ty W
              have k3 := run_mul m0
              have HN : Hid _ := hup
              have hmn : min limit (addW u sp) ≤ limit := by omega
              have hmu : u ≤ min limit (addW u sp) := by omega
              clear hup hlt ad1 ad3 m0 m2 m3 m4 ad4 ad2
              go_wp2_with fail
              refine Calls.mono (HFH.out (min limit (addW u sp)) hmn _ (SameW.refl _)) ?_
              rintro e w' ⟨rfl, rfl⟩
              go_wp2
              go_roundg gk
              case measure => omega
              case rel => exact ⟨_, _, _, _, _, rfl, rfl, rfl, rfl, rfl, rfl, HN.out, hmu, hmn, m1, hfu.out, HFin.out _ hmn⟩
            · rw [if_neg hlt] at hup
              have hlt' : lt0 fu = false := by simpa using hlt
              unfold lt0 at hlt'
              simp only [Option.some.injEq, Prod.mk.injEq] at hup
              obtain ⟨rfl, rfl, rfl, rfl⟩ := hup
              have HUa : Hid True := trivial
              clear hlt
              go_wp2_with fail
              go_loopg [10, 11, 12, 13, 15] n3 (fun gk lo up flo fup mv wr => ∃ l u fl fu : Nat, ∃ m : Int, lo = .float .f64 l ∧ up = .float .f64 u ∧ flo = .float .f64 fl ∧ fup = .float .f64 fu ∧ mv = .int .i64 m ∧ Hid (loopN F scale gk l u fl fu m = some r ∧ l ≤ u ∧ u ≤ limit ∧ FinW fl ∧ FinW fu ∧ SameW w wr))
              case atStart => exact ⟨_, _, _, _, 0, rfl, rfl, rfl, rfl, rfl, HUb.out, hlu, hul, hfl.out, hfu.out, SameW.refl _⟩
              case round =>
                clear HUa HUb hlu hul hfl hfu
                obtain ⟨l, u, fl, fu, m, rfl, rfl, rfl, rfl, rfl, hrl⟩ := hrel
                obtain ⟨hlp, hlu, hul, hfl0, hfu0, hwr⟩ := hrl.out
                have hfl : Hid _ := hfl0
                have hfu : Hid _ := hfu0
                have HW : Hid _ := hwr
                clear hfl0 hfu0 hwr hrl
                cases gk with
                | zero => cases hlp
                | succ gk =>
                rw [loopN] at hlp
                obtain ⟨cf1, cf2, cf3⟩ := cont_facts scale l u (by omega) hlu hs
                have k1 := run_sub cf1
                have k2 := fun ts ty W => run_max_pos scale l (by omega) (by omega) ts ty W
                have k3 := run_mul cf3
                by_cases hc : contB scale l u = true
                · rw [if_pos hc] at hlp
                  have hc' := hc
                  unfold contB at hc'
                  obtain ⟨mi1, mi2⟩ := mid_inside scale l u fl fu (by omega) hlu hs0 hs hc
                  have k4 := run_mul (mul_fin fu (subW u l) hfu.out (fin_pos _ (by omega)))
                  have k5 := run_sub (sub_fin fu fl hfu.out hfl.out)
                  cases hq : double.div (mulW fu (subW u l)) (subW fu fl) with
                  | some q =>
                    have k6 := run_div hq
                    have k7 := run_sub (sub_num u q (by omega) (div_num _ _ _ hq))
                    have hreg : regula l u fl fu = some (subW u q) := by unfold regula; rw [hq]; rfl
                    clear hq cf1 cf3
                    by_cases hin : insideB (subW u q) l u = true
                    · have hmid : midW l u fl fu = subW u q := by unfold midW; rw [hreg]; show (if insideB (subW u q) l u then _ else _) = _; rw [if_pos hin]
                      rw [hmid] at hlp mi1 mi2
                      obtain ⟨hi1, hi2⟩ : (double.order (subW u q) l == some .gt) = true ∧ (double.order (subW u q) u == some .lt) = true := by unfold insideB at hin; exact Bool.and_eq_true_iff.1 hin
                      have HLP : Hid _ := hlp
                      clear hlp hmid hreg hin hc
                      go_wp2_with fail
                      refine Calls.mono (HFH.out (subW u q) (by omega) _ (HW.out)) ?_
                      rintro e w' ⟨rfl, rfl⟩
                      have hlp := HLP.out
                      by_cases hge : ge0 (F (subW u q)) = true
                      · rw [if_pos hge] at hlp
                        have hge' := hge
                        unfold ge0 at hge'
                        clear hge
                        by_cases hm : 0 < m
                        · rw [if_pos hm] at hlp
                          have HLQ : Hid _ := hlp
                          clear hlp HLP
                          have khalf := run_div (half_fin fl hfl.out).1
                          go_wp2
                          go_roundg gk
                          case measure => omega
                          case rel => exact ⟨l, subW u q, halfW fl, F (subW u q), 1, rfl, rfl, rfl, rfl, rfl, HLQ.out, by omega, by omega, (half_fin fl hfl.out).2, HFin.out _ (by omega), HW.out⟩
                        · rw [if_neg hm] at hlp
                          have HLQ : Hid _ := hlp
                          clear hlp HLP
                          go_wp2
                          go_roundg gk
                          case measure => omega
                          case rel => exact ⟨l, subW u q, fl, F (subW u q), 1, rfl, rfl, rfl, rfl, rfl, HLQ.out, by omega, by omega, hfl.out, HFin.out _ (by omega), HW.out⟩
                      · rw [if_neg hge] at hlp
                        have hge' : ge0 (F (subW u q)) = false := by simpa using hge
                        unfold ge0 at hge'
                        clear hge
                        by_cases hm : m < 0
                        · rw [if_pos hm] at hlp
                          have HLQ : Hid _ := hlp
                          clear hlp HLP
                          have khalf := run_div (half_fin fu hfu.out).1
                          go_wp2
                          go_roundg gk
                          case measure => omega
                          case rel => exact ⟨subW u q, u, F (subW u q), halfW fu, -1, rfl, rfl, rfl, rfl, rfl, HLQ.out, by omega, by omega, HFin.out _ (by omega), (half_fin fu hfu.out).2, HW.out⟩
                        · rw [if_neg hm] at hlp
                          have HLQ : Hid _ := hlp
                          clear hlp HLP
                          go_wp2
                          go_roundg gk
                          case measure => omega
                          case rel => exact ⟨subW u q, u, F (subW u q), fu, -1, rfl, rfl, rfl, rfl, rfl, HLQ.out, by omega, by omega, HFin.out _ (by omega), hfu.out, HW.out⟩
                    · have hmid : midW l u fl fu = bis l u := by unfold midW; rw [hreg]; show (if insideB (subW u q) l u then _ else _) = _; rw [if_neg hin]
                      rw [hmid] at hlp mi1 mi2
                      obtain ⟨bb1, bb2, bb3, bb4, bb5⟩ := bis_inside l u (by omega) (cont_wide scale l u (by omega) hlu hs0 hs hc)
                      have kadd := run_add bb3
                      have kdiv := run_div bb4
                      clear bb3 bb4 bb5
                      have HLP : Hid _ := hlp
                      clear hlp
                      have hin' : insideB (subW u q) l u = false := by simpa using hin
                      unfold insideB at hin'
                      clear hmid hreg hin hc
                      by_cases hi1 : (double.order (subW u q) l == some .gt) = true
                      · have hi2 : (double.order (subW u q) u == some .lt) = false := by rw [hi1, Bool.true_and] at hin'; exact hin'
                        clear hin'
                        go_wp2_with fail
                        refine (isinf_false (bis l u) (by omega) _).mono ?_
                        rintro e w' ⟨rfl, rfl⟩
                        go_wp2_with fail
                        refine Calls.mono (HFH.out (bis l u) (by omega) _ (HW.out)) ?_
                        rintro e w' ⟨rfl, rfl⟩
                        have hlp := HLP.out
                        by_cases hge : ge0 (F (bis l u)) = true
                        · rw [if_pos hge] at hlp
                          have hge' := hge
                          unfold ge0 at hge'
                          clear hge
                          by_cases hm : 0 < m
                          · rw [if_pos hm] at hlp
                            have HLQ : Hid _ := hlp
                            clear hlp HLP
                            have khalf := run_div (half_fin fl hfl.out).1
                            go_wp2
                            go_roundg gk
                            case measure => omega
                            case rel => exact ⟨l, bis l u, halfW fl, F (bis l u), 1, rfl, rfl, rfl, rfl, rfl, HLQ.out, by omega, by omega, (half_fin fl hfl.out).2, HFin.out _ (by omega), HW.out⟩
                          · rw [if_neg hm] at hlp
                            have HLQ : Hid _ := hlp
                            clear hlp HLP
                            go_wp2
                            go_roundg gk
                            case measure => omega
                            case rel => exact ⟨l, bis l u, fl, F (bis l u), 1, rfl, rfl, rfl, rfl, rfl, HLQ.out, by omega, by omega, hfl.out, HFin.out _ (by omega), HW.out⟩
                        · rw [if_neg hge] at hlp
                          have hge' : ge0 (F (bis l u)) = false := by simpa using hge
                          unfold ge0 at hge'
                          clear hge
                          by_cases hm : m < 0
                          · rw [if_pos hm] at hlp
                            have HLQ : Hid _ := hlp
                            clear hlp HLP
                            have khalf := run_div (half_fin fu hfu.out).1
                            go_wp2
                            go_roundg gk
                            case measure => omega
                            case rel => exact ⟨bis l u, u, F (bis l u), halfW fu, -1, rfl, rfl, rfl, rfl, rfl, HLQ.out, by omega, by omega, HFin.out _ (by omega), (half_fin fu hfu.out).2, HW.out⟩
                          · rw [if_neg hm] at hlp
                            have HLQ : Hid _ := hlp
                            clear hlp HLP
                            go_wp2
                            go_roundg gk
                            case measure => omega
                            case rel => exact ⟨bis l u, u, F (bis l u), fu, -1, rfl, rfl, rfl, rfl, rfl, HLQ.out, by omega, by omega, HFin.out _ (by omega), hfu.out, HW.out⟩
                      · have hi1' : (double.order (subW u q) l == some .gt) = false := by simpa using hi1
                        clear hin' hi1
                        go_wp2_with fail
                        refine (isinf_false (bis l u) (by omega) _).mono ?_
                        rintro e w' ⟨rfl, rfl⟩
                        go_wp2_with fail
                        refine Calls.mono (HFH.out (bis l u) (by omega) _ (HW.out)) ?_
                        rintro e w' ⟨rfl, rfl⟩
                        have hlp := HLP.out
                        by_cases hge : ge0 (F (bis l u)) = true
                        · rw [if_pos hge] at hlp
                          have hge' := hge
                          unfold ge0 at hge'
                          clear hge
                          by_cases hm : 0 < m
                          · rw [if_pos hm] at hlp
                            have HLQ : Hid _ := hlp
                            clear hlp HLP
                            have khalf := run_div (half_fin fl hfl.out).1
                            go_wp2
                            go_roundg gk
                            case measure => omega
                            case rel => exact ⟨l, bis l u, halfW fl, F (bis l u), 1, rfl, rfl, rfl, rfl, rfl, HLQ.out, by omega, by omega, (half_fin fl hfl.out).2, HFin.out _ (by omega), HW.out⟩
                          · rw [if_neg hm] at hlp
                            have HLQ : Hid _ := hlp
                            clear hlp HLP
                            go_wp2
                            go_roundg gk
                            case measure => omega
                            case rel => exact ⟨l, bis l u, fl, F (bis l u), 1, rfl, rfl, rfl, rfl, rfl, HLQ.out, by omega, by omega, hfl.out, HFin.out _ (by omega), HW.out⟩
                        · rw [if_neg hge] at hlp
                          have hge' : ge0 (F (bis l u)) = false := by simpa using hge
                          unfold ge0 at hge'
                          clear hge
                          by_cases hm : m < 0
                          · rw [if_pos hm] at hlp
                            have HLQ : Hid _ := hlp
                            clear hlp HLP
                            have khalf := run_div (half_fin fu hfu.out).1
                            go_wp2
                            go_roundg gk
                            case measure => omega
                            case rel => exact ⟨bis l u, u, F (bis l u), halfW fu, -1, rfl, rfl, rfl, rfl, rfl, HLQ.out, by omega, by omega, HFin.out _ (by omega), (half_fin fu hfu.out).2, HW.out⟩
                          · rw [if_neg hm] at hlp
                            have HLQ : Hid _ := hlp
                            clear hlp HLP
                            go_wp2
                            go_roundg gk
                            case measure => omega
                            case rel => exact ⟨bis l u, u, F (bis l u), fu, -1, rfl, rfl, rfl, rfl, rfl, HLQ.out, by omega, by omega, HFin.out _ (by omega), hfu.out, HW.out⟩
                  | none =>
                    have hreg : regula l u fl fu = none := by unfold regula; rw [hq]; rfl
                    obtain ⟨v1, hv1, k6⟩ := run_div_nan _ _ hq wr
                    obtain ⟨v2, hv2, k7⟩ := run_sub_nan u v1 (sub_of_nan u v1 hv1) wr.drew
                    have hmid : midW l u fl fu = bis l u := by unfold midW; rw [hreg]
                    rw [hmid] at hlp mi1 mi2
                    obtain ⟨bb1, bb2, bb3, bb4, bb5⟩ := bis_inside l u (by omega) (cont_wide scale l u (by omega) hlu hs0 hs hc)
                    have kadd := run_add bb3
                    have kdiv := run_div bb4
                    clear bb3 bb4 bb5
                    have HLP : Hid _ := hlp
                    clear hlp
                    have hi1 : (double.order v2 l == some .gt) = false := by rw [order_nan v2 l hv2]; rfl
                    clear hmid hreg hc hq hv1 hv2 cf1 cf3
                    go_wp2_with fail
                    refine (isinf_false (bis l u) (by omega) _).mono ?_
                    rintro e w' ⟨rfl, rfl⟩
                    go_wp2_with fail
                    refine Calls.mono (HFH.out (bis l u) (by omega) _ (HW.out.drew.drew)) ?_
                    rintro e w' ⟨rfl, rfl⟩
                    have hlp := HLP.out
                    by_cases hge : ge0 (F (bis l u)) = true
                    · rw [if_pos hge] at hlp
                      have hge' := hge
                      unfold ge0 at hge'
                      clear hge
                      by_cases hm : 0 < m
                      · rw [if_pos hm] at hlp
                        have HLQ : Hid _ := hlp
                        clear hlp HLP
                        have khalf := run_div (half_fin fl hfl.out).1
                        go_wp2
                        go_roundg gk
                        case measure => omega
                        case rel => exact ⟨l, bis l u, halfW fl, F (bis l u), 1, rfl, rfl, rfl, rfl, rfl, HLQ.out, by omega, by omega, (half_fin fl hfl.out).2, HFin.out _ (by omega), HW.out.drew.drew⟩
                      · rw [if_neg hm] at hlp
                        have HLQ : Hid _ := hlp
                        clear hlp HLP
                        go_wp2
                        go_roundg gk
                        case measure => omega
                        case rel => exact ⟨l, bis l u, fl, F (bis l u), 1, rfl, rfl, rfl, rfl, rfl, HLQ.out, by omega, by omega, hfl.out, HFin.out _ (by omega), HW.out.drew.drew⟩
                    · rw [if_neg hge] at hlp
                      have hge' : ge0 (F (bis l u)) = false := by simpa using hge
                      unfold ge0 at hge'
                      clear hge
                      by_cases hm : m < 0
                      · rw [if_pos hm] at hlp
                        have HLQ : Hid _ := hlp
                        clear hlp HLP
                        have khalf := run_div (half_fin fu hfu.out).1
                        go_wp2
                        go_roundg gk
                        case measure => omega
                        case rel => exact ⟨bis l u, u, F (bis l u), halfW fu, -1, rfl, rfl, rfl, rfl, rfl, HLQ.out, by omega, by omega, HFin.out _ (by omega), (half_fin fu hfu.out).2, HW.out.drew.drew⟩
                      · rw [if_neg hm] at hlp
                        have HLQ : Hid _ := hlp
                        clear hlp HLP
                        go_wp2
                        go_roundg gk
                        case measure => omega
                        case rel => exact ⟨bis l u, u, F (bis l u), fu, -1, rfl, rfl, rfl, rfl, rfl, HLQ.out, by omega, by omega, HFin.out _ (by omega), hfu.out, HW.out.drew.drew⟩
                · rw [if_neg hc] at hlp
                  have hr : r = u := (Option.some.inj hlp).symm
                  have hc' : contB scale l u = false := by simpa using hc
                  unfold contB at hc'
                  have HR : Hid _ := hr
                  clear hr hlp hc cf1 cf2 cf3
                  go_wp2
                  go_ret
                  exact ⟨by rw [HR.out]; rfl, HW.out⟩
      · have hlf' := hlf
        unfold lt0 at hlf'
        have HU : Hid _ := HGo.out (by rw [hlf, Bool.false_and])
        clear hlf HY HGo
        go_wp2_with fail
        obtain ⟨lo2, up2, flo2, fup2, HU1, HU2⟩ := HU.out
        have HUa : Hid _ := HU1
        have HUb : Hid _ := HU2
        have HFL : Hid _ := hfl
        have HFU : Hid _ := hfu
        clear HU1 HU2 HU hfl hfu hge'
        go_loopg [10, 11, 12, 13, 14] n2 (fun gk lo up flo fup st wr => ∃ l u fl fu sp : Nat, lo = .float .f64 l ∧ up = .float .f64 u ∧ flo = .float .f64 fl ∧ fup = .float .f64 fu ∧ st = .float .f64 sp ∧ w = wr ∧ Hid (upN F limit gk l u fl fu sp = some (lo2, up2, flo2, fup2) ∧ l ≤ u ∧ u ≤ limit ∧ sp ≤ 9218868437227405312 ∧ FinW fl ∧ FinW fu))
        case atStart => exact ⟨_, _, _, _, _, rfl, rfl, rfl, rfl, rfl, rfl, HUa.out, hlu, hul, hsp, HFL.out, HFU.out⟩
        case round =>
          clear HUa hlu hul hsp HFL HFU
          obtain ⟨l, u, fl, fu, sp, rfl, rfl, rfl, rfl, rfl, rfl, hrl⟩ := hrel
          obtain ⟨hup, hlu, hul, hsp, hfl0, hfu0⟩ := hrl.out
          have hfl : Hid _ := hfl0
          have hfu : Hid _ := hfu0
          clear hfl0 hfu0 hrl
          cases gk with
          | zero => cases hup
          | succ gk =>
          rw [upN] at hup
          by_cases hlt : lt0 fu = true
          · rw [if_pos hlt] at hup
            have hlt' := hlt
            unfold lt0 at hlt'
            obtain ⟨ad1, ad2, ad3⟩ := add_any u sp (by omega) hsp
            have ad4 := add_up u sp (by omega) hsp
            obtain ⟨m0, m1, m2, m3, m4⟩ := step_any' sp hsp
            have k1 := run_add ad1
            have k2 := fun ts ty W => run_min_pos limit (addW u sp) (by omega) ad2 ts ty W
            have k3 := run_mul m0
            have HN : Hid _ := hup
            have hmn : min limit (addW u sp) ≤ limit := by omega
            have hmu : u ≤ min limit (addW u sp) := by omega
            clear hup hlt ad1 ad3 m0 m2 m3 m4 ad4 ad2
            go_wp2_with fail
            refine Calls.mono (HFH.out (min limit (addW u sp)) hmn _ (SameW.refl _)) ?_
            rintro e w' ⟨rfl, rfl⟩
            go_wp2
            go_roundg gk
            case measure => omega
            case rel => exact ⟨_, _, _, _, _, rfl, rfl, rfl, rfl, rfl, rfl, HN.out, hmu, hmn, m1, hfu.out, HFin.out _ hmn⟩
          · rw [if_neg hlt] at hup
            have hlt' : lt0 fu = false := by simpa using hlt
            unfold lt0 at hlt'
            simp only [Option.some.injEq, Prod.mk.injEq] at hup
            obtain ⟨rfl, rfl, rfl, rfl⟩ := hup
            have HUa : Hid True := trivial
            clear hlt
            go_wp2_with fail
            go_loopg [10, 11, 12, 13, 15] n3 (fun gk lo up flo fup mv wr => ∃ l u fl fu : Nat, ∃ m : Int, lo = .float .f64 l ∧ up = .float .f64 u ∧ flo = .float .f64 fl ∧ fup = .float .f64 fu ∧ mv = .int .i64 m ∧ Hid (loopN F scale gk l u fl fu m = some r ∧ l ≤ u ∧ u ≤ limit ∧ FinW fl ∧ FinW fu ∧ SameW w wr))
            case atStart => exact ⟨_, _, _, _, 0, rfl, rfl, rfl, rfl, rfl, HUb.out, hlu, hul, hfl.out, hfu.out, SameW.refl _⟩
            case round =>
              clear HUa HUb hlu hul hfl hfu
              obtain ⟨l, u, fl, fu, m, rfl, rfl, rfl, rfl, rfl, hrl⟩ := hrel
              obtain ⟨hlp, hlu, hul, hfl0, hfu0, hwr⟩ := hrl.out
              have hfl : Hid _ := hfl0
              have hfu : Hid _ := hfu0
              have HW : Hid _ := hwr
              clear hfl0 hfu0 hwr hrl
              cases gk with
              | zero => cases hlp
              | succ gk =>
              rw [loopN] at hlp
              obtain ⟨cf1, cf2, cf3⟩ := cont_facts scale l u (by omega) hlu hs
              have k1 := run_sub cf1
              have k2 := fun ts ty W => run_max_pos scale l (by omega) (by omega) ts ty W
              have k3 := run_mul cf3
              by_cases hc : contB scale l u = true
              · rw [if_pos hc] at hlp
                have hc' := hc
                unfold contB at hc'
                obtain ⟨mi1, mi2⟩ := mid_inside scale l u fl fu (by omega) hlu hs0 hs hc
                have k4 := run_mul (mul_fin fu (subW u l) hfu.out (fin_pos _ (by omega)))
                have k5 := run_sub (sub_fin fu fl hfu.out hfl.out)
                cases hq : double.div (mulW fu (subW u l)) (subW fu fl) with
                | some q =>
                  have k6 := run_div hq
                  have k7 := run_sub (sub_num u q (by omega) (div_num _ _ _ hq))
                  have hreg : regula l u fl fu = some (subW u q) := by unfold regula; rw [hq]; rfl
                  clear hq cf1 cf3
                  by_cases hin : insideB (subW u q) l u = true
                  · have hmid : midW l u fl fu = subW u q := by unfold midW; rw [hreg]; show (if insideB (subW u q) l u then _ else _) = _; rw [if_pos hin]
                    rw [hmid] at hlp mi1 mi2
                    obtain ⟨hi1, hi2⟩ : (double.order (subW u q) l == some .gt) = true ∧ (double.order (subW u q) u == some .lt) = true := by unfold insideB at hin; exact Bool.and_eq_true_iff.1 hin
                    have HLP : Hid _ := hlp
                    clear hlp hmid hreg hin hc
                    go_wp2_with fail
                    refine Calls.mono (HFH.out (subW u q) (by omega) _ (HW.out)) ?_
                    rintro e w' ⟨rfl, rfl⟩
                    have hlp := HLP.out
                    by_cases hge : ge0 (F (subW u q)) = true
                    · rw [if_pos hge] at hlp
                      have hge' := hge
                      unfold ge0 at hge'
                      clear hge
                      by_cases hm : 0 < m
                      · rw [if_pos hm] at hlp
                        have HLQ : Hid _ := hlp
                        clear hlp HLP
                        have khalf := run_div (half_fin fl hfl.out).1
                        go_wp2
                        go_roundg gk
                        case measure => omega
                        case rel => exact ⟨l, subW u q, halfW fl, F (subW u q), 1, rfl, rfl, rfl, rfl, rfl, HLQ.out, by omega, by omega, (half_fin fl hfl.out).2, HFin.out _ (by omega), HW.out⟩
                      · rw [if_neg hm] at hlp
                        have HLQ : Hid _ := hlp
                        clear hlp HLP
                        go_wp2
                        go_roundg gk
                        case measure => omega
                        case rel => exact ⟨l, subW u q, fl, F (subW u q), 1, rfl, rfl, rfl, rfl, rfl, HLQ.out, by omega, by omega, hfl.out, HFin.out _ (by omega), HW.out⟩
                    · rw [if_neg hge] at hlp
                      have hge' : ge0 (F (subW u q)) = false := by simpa using hge
                      unfold ge0 at hge'
                      clear hge
                      by_cases hm : m < 0
                      · rw [if_pos hm] at hlp
                        have HLQ : Hid _ := hlp
                        clear hlp HLP
                        have khalf := run_div (half_fin fu hfu.out).1
                        go_wp2
                        go_roundg gk
                        case measure => omega
                        case rel => exact ⟨subW u q, u, F (subW u q), halfW fu, -1, rfl, rfl, rfl, rfl, rfl, HLQ.out, by omega, by omega, HFin.out _ (by omega), (half_fin fu hfu.out).2, HW.out⟩
                      · rw [if_neg hm] at hlp
                        have HLQ : Hid _ := hlp
                        clear hlp HLP
                        go_wp2
                        go_roundg gk
                        case measure => omega
                        case rel => exact ⟨subW u q, u, F (subW u q), fu, -1, rfl, rfl, rfl, rfl, rfl, HLQ.out, by omega, by omega, HFin.out _ (by omega), hfu.out, HW.out⟩
                  · have hmid : midW l u fl fu = bis l u := by unfold midW; rw [hreg]; show (if insideB (subW u q) l u then _ else _) = _; rw [if_neg hin]
                    rw [hmid] at hlp mi1 mi2
                    obtain ⟨bb1, bb2, bb3, bb4, bb5⟩ := bis_inside l u (by omega) (cont_wide scale l u (by omega) hlu hs0 hs hc)
                    have kadd := run_add bb3
                    have kdiv := run_div bb4
                    clear bb3 bb4 bb5
                    have HLP : Hid _ := hlp
                    clear hlp
                    have hin' : insideB (subW u q) l u = false := by simpa using hin
                    unfold insideB at hin'
                    clear hmid hreg hin hc
                    by_cases hi1 : (double.order (subW u q) l == some .gt) = true
                    · have hi2 : (double.order (subW u q) u == some .lt) = false := by rw [hi1, Bool.true_and] at hin'; exact hin'
                      clear hin'
                      go_wp2_with fail
                      refine (isinf_false (bis l u) (by omega) _).mono ?_
                      rintro e w' ⟨rfl, rfl⟩
                      go_wp2_with fail
                      refine Calls.mono (HFH.out (bis l u) (by omega) _ (HW.out)) ?_
                      rintro e w' ⟨rfl, rfl⟩
                      have hlp := HLP.out
                      by_cases hge : ge0 (F (bis l u)) = true
                      · rw [if_pos hge] at hlp
                        have hge' := hge
                        unfold ge0 at hge'
                        clear hge
                        by_cases hm : 0 < m
                        · rw [if_pos hm] at hlp
                          have HLQ : Hid _ := hlp
                          clear hlp HLP
                          have khalf := run_div (half_fin fl hfl.out).1
                          go_wp2
                          go_roundg gk
                          case measure => omega
                          case rel => exact ⟨l, bis l u, halfW fl, F (bis l u), 1, rfl, rfl, rfl, rfl, rfl, HLQ.out, by omega, by omega, (half_fin fl hfl.out).2, HFin.out _ (by omega), HW.out⟩
                        · rw [if_neg hm] at hlp
                          have HLQ : Hid _ := hlp
                          clear hlp HLP
                          go_wp2
                          go_roundg gk
                          case measure => omega
                          case rel => exact ⟨l, bis l u, fl, F (bis l u), 1, rfl, rfl, rfl, rfl, rfl, HLQ.out, by omega, by omega, hfl.out, HFin.out _ (by omega), HW.out⟩
                      · rw [if_neg hge] at hlp
                        have hge' : ge0 (F (bis l u)) = false := by simpa using hge
                        unfold ge0 at hge'
                        clear hge
                        by_cases hm : m < 0
                        · rw [if_pos hm] at hlp
                          have HLQ : Hid _ := hlp
                          clear hlp HLP
                          have khalf := run_div (half_fin fu hfu.out).1
                          go_wp2
                          go_roundg gk
                          case measure => omega
                          case rel => exact ⟨bis l u, u, F (bis l u), halfW fu, -1, rfl, rfl, rfl, rfl, rfl, HLQ.out, by omega, by omega, HFin.out _ (by omega), (half_fin fu hfu.out).2, HW.out⟩
                        · rw [if_neg hm] at hlp
                          have HLQ : Hid _ := hlp
                          clear hlp HLP
                          go_wp2
                          go_roundg gk
                          case measure => omega
                          case rel => exact ⟨bis l u, u, F (bis l u), fu, -1, rfl, rfl, rfl, rfl, rfl, HLQ.out, by omega, by omega, HFin.out _ (by omega), hfu.out, HW.out⟩
                    · have hi1' : (double.order (subW u q) l == some .gt) = false := by simpa using hi1
                      clear hin' hi1
                      go_wp2_with fail
                      refine (isinf_false (bis l u) (by omega) _).mono ?_
                      rintro e w' ⟨rfl, rfl⟩
                      go_wp2_with fail
                      refine Calls.mono (HFH.out (bis l u) (by omega) _ (HW.out)) ?_
                      rintro e w' ⟨rfl, rfl⟩
                      have hlp := HLP.out
                      by_cases hge : ge0 (F (bis l u)) = true
                      · rw [if_pos hge] at hlp
                        have hge' := hge
                        unfold ge0 at hge'
                        clear hge
                        by_cases hm : 0 < m
                        · rw [if_pos hm] at hlp
                          have HLQ : Hid _ := hlp
                          clear hlp HLP
                          have khalf := run_div (half_fin fl hfl.out).1
                          go_wp2
                          go_roundg gk
                          case measure => omega
                          case rel => exact ⟨l, bis l u, halfW fl, F (bis l u), 1, rfl, rfl, rfl, rfl, rfl, HLQ.out, by omega, by omega, (half_fin fl hfl.out).2, HFin.out _ (by omega), HW.out⟩
                        · rw [if_neg hm] at hlp
                          have HLQ : Hid _ := hlp
                          clear hlp HLP
                          go_wp2
                          go_roundg gk
                          case measure => omega
                          case rel => exact ⟨l, bis l u, fl, F (bis l u), 1, rfl, rfl, rfl, rfl, rfl, HLQ.out, by omega, by omega, hfl.out, HFin.out _ (by omega), HW.out⟩
                      · rw [if_neg hge] at hlp
                        have hge' : ge0 (F (bis l u)) = false := by simpa using hge
                        unfold ge0 at hge'
                        clear hge
                        by_cases hm : m < 0
                        · rw [if_pos hm] at hlp
                          have HLQ : Hid _ := hlp
                          clear hlp HLP
                          have khalf := run_div (half_fin fu hfu.out).1
                          go_wp2
                          go_roundg gk
                          case measure => omega
                          case rel => exact ⟨bis l u, u, F (bis l u), halfW fu, -1, rfl, rfl, rfl, rfl, rfl, HLQ.out, by omega, by omega, HFin.out _ (by omega), (half_fin fu hfu.out).2, HW.out⟩
                        · rw [if_neg hm] at hlp
                          have HLQ : Hid _ := hlp
                          clear hlp HLP
                          go_wp2
                          go_roundg gk
                          case measure => omega
                          case rel => exact ⟨bis l u, u, F (bis l u), fu, -1, rfl, rfl, rfl, rfl, rfl, HLQ.out, by omega, by omega, HFin.out _ (by omega), hfu.out, HW.out⟩
                | none =>
                  have hreg : regula l u fl fu = none := by unfold regula; rw [hq]; rfl
                  obtain ⟨v1, hv1, k6⟩ := run_div_nan _ _ hq wr
                  obtain ⟨v2, hv2, k7⟩ := run_sub_nan u v1 (sub_of_nan u v1 hv1) wr.drew
                  have hmid : midW l u fl fu = bis l u := by unfold midW; rw [hreg]
                  rw [hmid] at hlp mi1 mi2
                  obtain ⟨bb1, bb2, bb3, bb4, bb5⟩ := bis_inside l u (by omega) (cont_wide scale l u (by omega) hlu hs0 hs hc)
                  have kadd := run_add bb3
                  have kdiv := run_div bb4
                  clear bb3 bb4 bb5
                  have HLP : Hid _ := hlp
                  clear hlp
                  have hi1 : (double.order v2 l == some .gt) = false := by rw [order_nan v2 l hv2]; rfl
                  clear hmid hreg hc hq hv1 hv2 cf1 cf3
                  go_wp2_with fail
                  refine (isinf_false (bis l u) (by omega) _).mono ?_
                  rintro e w' ⟨rfl, rfl⟩
                  go_wp2_with fail
                  refine Calls.mono (HFH.out (bis l u) (by omega) _ (HW.out.drew.drew)) ?_
                  rintro e w' ⟨rfl, rfl⟩
                  have hlp := HLP.out
                  by_cases hge : ge0 (F (bis l u)) = true
                  · rw [if_pos hge] at hlp
                    have hge' := hge
                    unfold ge0 at hge'
                    clear hge
                    by_cases hm : 0 < m
                    · rw [if_pos hm] at hlp
                      have HLQ : Hid _ := hlp
                      clear hlp HLP
                      have khalf := run_div (half_fin fl hfl.out).1
                      go_wp2
                      go_roundg gk
                      case measure => omega
                      case rel => exact ⟨l, bis l u, halfW fl, F (bis l u), 1, rfl, rfl, rfl, rfl, rfl, HLQ.out, by omega, by omega, (half_fin fl hfl.out).2, HFin.out _ (by omega), HW.out.drew.drew⟩
                    · rw [if_neg hm] at hlp
                      have HLQ : Hid _ := hlp
                      clear hlp HLP
                      go_wp2
                      go_roundg gk
                      case measure => omega
                      case rel => exact ⟨l, bis l u, fl, F (bis l u), 1, rfl, rfl, rfl, rfl, rfl, HLQ.out, by omega, by omega, hfl.out, HFin.out _ (by omega), HW.out.drew.drew⟩
                  · rw [if_neg hge] at hlp
                    have hge' : ge0 (F (bis l u)) = false := by simpa using hge
                    unfold ge0 at hge'
                    clear hge
                    by_cases hm : m < 0
                    · rw [if_pos hm] at hlp
                      have HLQ : Hid _ := hlp
                      clear hlp HLP
                      have khalf := run_div (half_fin fu hfu.out).1
                      go_wp2
                      go_roundg gk
                      case measure => omega
                      case rel => exact ⟨bis l u, u, F (bis l u), halfW fu, -1, rfl, rfl, rfl, rfl, rfl, HLQ.out, by omega, by omega, HFin.out _ (by omega), (half_fin fu hfu.out).2, HW.out.drew.drew⟩
                    · rw [if_neg hm] at hlp
                      have HLQ : Hid _ := hlp
                      clear hlp HLP
                      go_wp2
                      go_roundg gk
                      case measure => omega
                      case rel => exact ⟨bis l u, u, F (bis l u), fu, -1, rfl, rfl, rfl, rfl, rfl, HLQ.out, by omega, by omega, HFin.out _ (by omega), hfu.out, HW.out.drew.drew⟩
              · rw [if_neg hc] at hlp
                have hr : r = u := (Option.some.inj hlp).symm
                have hc' : contB scale l u = false := by simpa using hc
                unfold contB at hc'
                have HR : Hid _ := hr
                clear hr hlp hc cf1 cf2 cf3
                go_wp2
                go_ret
                exact ⟨by rw [HR.out]; rfl, HW.out⟩

end Go.Proofs.Qxb6615185a
