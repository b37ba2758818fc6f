/-
  DERIVED. Seat b6615185a: the walk of the law, at the nil slice.
-/
import Derived.Test.Qxb6615185aWalk8
namespace Go.Proofs.Qxb6615185a
open Go.RowKit
open Ieee (double Datum)
set_option linter.unusedVariables false

set_option maxHeartbeats 1000000 in
set_option maxRecDepth 20000 in
theorem nil_early (cut : Int) (t scale p R guess : Nat) (w : World) (hcut : cut ≠ 0) :
    Calls Try.prog 3 #[.slice none 0 0, .int .i64 cut, .float .f64 t, .float .f64 scale, .float .f64 p, .float .f64 R, .float .f64 guess] w fun e w' => e = .returned (.bool true) ∧ Below w.heap.size w w' := by
  have HB : Hid (Calls Try.prog 5 #[.slice none 0 0, .int .i64 cut, .float .f64 t, .float .f64 scale, .float .f64 p, .float .f64 R, .float .f64 guess] w fun e w' => RetB e ∧ w = w') := bytes_any none 0 0 cut _ _ _ _ _ w (Nat.zero_le _)
  by_cases hc0 : cut < 0
  · go_enter Try.func3, Try.ntmps3
    go_wp2_with fail
    refine HB.out.mono ?_
    rintro e w' ⟨⟨bb, rfl⟩, rfl⟩
    cases bb
    all_goals
      go_wp2
      go_ret
      exact ⟨rfl, Below.refl _ _⟩
  · have hc1 : 0 < cut := by omega
    clear hcut
    go_enter Try.func3, Try.ntmps3
    go_wp2_with fail
    refine HB.out.mono ?_
    rintro e w' ⟨⟨bb, rfl⟩, rfl⟩
    cases bb
    all_goals
      go_wp2
      go_ret
      exact ⟨rfl, Below.refl _ _⟩

set_option maxHeartbeats 1000000 in
set_option maxRecDepth 20000 in
theorem nil_zero (xs : List Nat) (t scale p R guess : Nat) (w : World) (hxl : xs.length = 0)
    (HD0 : Calls Try.prog 6 #[.slice none 0 0, .float .f64 t, .float .f64 scale, .float .f64 p, .float .f64 R, .float .f64 guess] w fun e w' => RetS (Dom xs t scale p R guess) e ∧ w = w') :
    Calls Try.prog 3 #[.slice none 0 0, .int .i64 0, .float .f64 t, .float .f64 scale, .float .f64 p, .float .f64 R, .float .f64 guess] w fun e w' => e = .returned (.bool true) ∧ Below w.heap.size w w' := by
  have HB : Hid (Calls Try.prog 5 #[.slice none 0 0, .int .i64 0, .float .f64 t, .float .f64 scale, .float .f64 p, .float .f64 R, .float .f64 guess] w fun e w' => RetB e ∧ w = w') := bytes_any none 0 0 0 _ _ _ _ _ w (Nat.zero_le _)
  have HD : Hid (Calls Try.prog 6 #[.slice none 0 0, .float .f64 t, .float .f64 scale, .float .f64 p, .float .f64 R, .float .f64 guess] w fun e w' => RetS (Dom xs t scale p R guess) e ∧ w = w') := HD0
  have HX : Hid (xs.length = 0) := hxl
  clear HD0 hxl
  have hf := fmt64
  have hneq := fun W => run_neq_slice_nil_any (P := Try.prog) W 22 23 none 0 0 0 0 Try.underlying22
  have hmk : ∀ W : World, (Instr.makeSlice 22 (.int .i64 0) (.int .i64 0)).run Try.prog W = .ok (.slice (some ⟨W.heap.size, 0, none⟩) 0 0) (W.alloc (.cells (madeCells #[.float .f64 0] 0) 23)) := fun W => run_make_row' (P := Try.prog) 22 23 (.float .f64 0) 8 Try.underlying22 info23 rfl .i64 .i64 0 (by omega) (by omega) W
  have HStart : Hid (∀ ys, RotAt w 0 ys 0 (w.alloc (.cells (madeCells #[.float .f64 0] 0) 23))) := rot_start w 0
  go_enter Try.func3, Try.ntmps3
  go_wp2_with fail
  refine HB.out.mono ?_
  rintro e w' ⟨⟨bb, rfl⟩, rfl⟩
  cases bb
  · go_wp2
    go_ret
    exact ⟨rfl, Below.refl _ _⟩
  go_wp2_with fail
  refine HD.out.mono ?_
  rintro e w' ⟨⟨bb, rfl, hbb⟩, rfl⟩
  cases bb
  · clear hbb
    go_wp2
    go_ret
    exact ⟨rfl, Below.refl _ _⟩
  have D := hbb rfl
  clear hbb
  have HRow1 : Hid (RowAt w none xs) := .inl (List.length_eq_zero_iff.1 HX.out)
  obtain ⟨r, L, nd, T0⟩ := tail_of none 0 0 xs 0 t scale p R guess HX.out (by omega) (by omega) D
  have T : Hid (Tail none 0 0 xs (rotL xs 0) t scale p R guess r L nd) := T0
  have HDn : Hid (∀ W, Calls Try.prog 9 #[.int .i64 0, .float .f64 p, .float .f64 R] W fun e w' => e = .returned (.int .i64 nd) ∧ W = w') := T0.dn
  obtain ⟨os1, os2⟩ := ord_self r T0.rI
  clear T0 D
  go_wp2
  go_loopw [18, 19] (fun i _ wr => i = .int .i64 0 ∧ Hid (RotAt w 0 (rotL xs 0) 0 wr)) (fun _ _ _ => 0)
  case atStart => exact ⟨rfl, HStart.out _⟩
  case round =>
    obtain ⟨rfl, hrot⟩ := hrel
    have HRr : Hid (RowAt wr none xs) := HRow1.out.below hrot.out.1
    have HRo : Hid (RowAt wr (some ⟨w.heap.size, 0, none⟩) (rotL xs 0)) := rot_end (by rw [rot_len xs 0 (Nat.zero_le _)]; exact HX.out) hrot.out
    have HBr : Hid (Below w.heap.size w wr) := hrot.out.1
    clear hmk hneq
    have HInf : Hid (∀ W, Calls Try.prog 7 #[] W fun e w' => e = .returned (.float .f64 9218868437227405312) ∧ W = w') := zzinf_any
    rcases Int.lt_trichotomy nd 0 with hn | hn | hn
    · have hr : r = 9218868437227405312 := T.out.q1 hn
      have hri : (double.order r 9218868437227405312 == some .eq) = true := by rw [hr] at os2 ⊢; exact os2
      clear hr
      go_wp2_with fail
      refine Calls.mono (HInf.out _) ?_
      rintro e w' ⟨rfl, rfl⟩
      go_wp2_with fail
      refine Calls.mono (T.out.s1 _ HRr.out) ?_
      rintro e wa ⟨rfl, hba⟩
      have HBa : Hid _ := hba
      clear hba
      go_wp2_with fail
      refine Calls.mono (T.out.s2 _ _ (HRo.out.below HBa.out)) ?_
      rintro e wb ⟨rfl, hbb⟩
      have HBb : Hid (Below w.heap.size w wb) := (HBr.out.trans (HBa.out.mono HBr.out.size)).trans (hbb.mono (Nat.le_trans HBr.out.size HBa.out.size))
      have HRb : Hid (RowAt wb none xs) := (HRr.out.below HBa.out).below hbb
      clear hbb
      go_wp2_with fail
      refine Calls.mono (HDn.out _) ?_
      rintro e w' ⟨rfl, rfl⟩
      go_wp2
      go_ret
      exact ⟨rfl, HBb.out⟩
    · have hr : r = 0 := T.out.q2 hn
      have hri : (double.order r 0 == some .eq) = true := by rw [hr] at os2 ⊢; exact os2
      clear hr
      go_wp2_with fail
      refine Calls.mono (HInf.out _) ?_
      rintro e w' ⟨rfl, rfl⟩
      go_wp2_with fail
      refine Calls.mono (T.out.s1 _ HRr.out) ?_
      rintro e wa ⟨rfl, hba⟩
      have HBa : Hid _ := hba
      clear hba
      go_wp2_with fail
      refine Calls.mono (T.out.s2 _ _ (HRo.out.below HBa.out)) ?_
      rintro e wb ⟨rfl, hbb⟩
      have HBb : Hid (Below w.heap.size w wb) := (HBr.out.trans (HBa.out.mono HBr.out.size)).trans (hbb.mono (Nat.le_trans HBr.out.size HBa.out.size))
      have HRb : Hid (RowAt wb none xs) := (HRr.out.below HBa.out).below hbb
      clear hbb
      go_wp2_with fail
      refine Calls.mono (HDn.out _) ?_
      rintro e w' ⟨rfl, rfl⟩
      go_wp2
      go_ret
      exact ⟨rfl, HBb.out⟩
    · by_cases hcn : (cntL xs L t : Int) < nd
      · have hr : r = 9218868437227405312 := T.out.q3 hn hcn
        have hri : (double.order r 9218868437227405312 == some .eq) = true := by rw [hr] at os2 ⊢; exact os2
        clear hr
        go_wp2_with fail
        refine Calls.mono (HInf.out _) ?_
        rintro e w' ⟨rfl, rfl⟩
        go_wp2_with fail
        refine Calls.mono (T.out.s1 _ HRr.out) ?_
        rintro e wa ⟨rfl, hba⟩
        have HBa : Hid _ := hba
        clear hba
        go_wp2_with fail
        refine Calls.mono (T.out.s2 _ _ (HRo.out.below HBa.out)) ?_
        rintro e wb ⟨rfl, hbb⟩
        have HBb : Hid (Below w.heap.size w wb) := (HBr.out.trans (HBa.out.mono HBr.out.size)).trans (hbb.mono (Nat.le_trans HBr.out.size HBa.out.size))
        have HRb : Hid (RowAt wb none xs) := (HRr.out.below HBa.out).below hbb
        clear hbb
        go_wp2_with fail
        refine Calls.mono (HDn.out _) ?_
        rintro e w' ⟨rfl, rfl⟩
        go_wp2_with fail
        refine Calls.mono (T.out.lm _ HRb.out) ?_
        rintro e w' ⟨rfl, rfl⟩
        go_wp2_with fail
        refine Calls.mono (T.out.ct _ _ T.out.lI HRb.out) ?_
        rintro e w' ⟨rfl, rfl⟩
        go_wp2
        go_ret
        exact ⟨rfl, HBb.out⟩
      · obtain ⟨hr, hcr⟩ := T.out.q4 hn hcn
        have hle := leB_pos r L T.out.rI (Nat.le_of_lt T.out.lI)
        rw [decide_eq_true hr] at hle
        unfold leB at hle
        have HrI : Hid (r < 9218868437227405312) := Nat.lt_of_le_of_lt hr T.out.lI
        clear hr
        go_wp2_with fail
        refine Calls.mono (HInf.out _) ?_
        rintro e w' ⟨rfl, rfl⟩
        go_wp2_with fail
        refine Calls.mono (T.out.s1 _ HRr.out) ?_
        rintro e wa ⟨rfl, hba⟩
        have HBa : Hid _ := hba
        clear hba
        go_wp2_with fail
        refine Calls.mono (T.out.s2 _ _ (HRo.out.below HBa.out)) ?_
        rintro e wb ⟨rfl, hbb⟩
        have HBb : Hid (Below w.heap.size w wb) := (HBr.out.trans (HBa.out.mono HBr.out.size)).trans (hbb.mono (Nat.le_trans HBr.out.size HBa.out.size))
        have HRb : Hid (RowAt wb none xs) := (HRr.out.below HBa.out).below hbb
        clear hbb
        go_wp2_with fail
        refine Calls.mono (HDn.out _) ?_
        rintro e w' ⟨rfl, rfl⟩
        go_wp2_with fail
        refine Calls.mono (T.out.lm _ HRb.out) ?_
        rintro e w' ⟨rfl, rfl⟩
        go_wp2_with fail
        refine Calls.mono (T.out.ct _ _ T.out.lI HRb.out) ?_
        rintro e w' ⟨rfl, rfl⟩
        go_wp2_with fail
        refine Calls.mono (T.out.ct _ _ HrI.out HRb.out) ?_
        rintro e w' ⟨rfl, rfl⟩
        go_wp2
        go_ret
        exact ⟨rfl, HBb.out⟩

end Go.Proofs.Qxb6615185a
