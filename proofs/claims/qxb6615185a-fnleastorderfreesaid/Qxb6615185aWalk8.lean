/-
  DERIVED. Seat b6615185a: the walk of the law.
-/
import Derived.Test.Qxb6615185aWalk7
import Derived.LoopTactic
namespace Go.Proofs.Qxb6615185a
open Go.RowKit
open Ieee (double Datum)
set_option linter.unusedVariables false

theorem ord_self (r : Nat) (h : r ≤ 9218868437227405312) : (double.order r r != some .eq) = false ∧ (double.order r r == some .eq) = true := by
  rw [order_pos r r h h]
  simp

/-- What the law's answer leans on. -/
structure Tail (A1 : Option Addr) (cap1 len : Nat) (xs ys : List Nat) (t scale p R guess r L : Nat) (nd : Int) : Prop where
  s1 : ∀ W, RowAt W A1 xs → Calls Try.prog 8 #[.slice A1 len cap1, .float .f64 t, .float .f64 scale, .float .f64 p, .float .f64 R, .float .f64 guess] W fun e w' => e = .returned (.float .f64 r) ∧ Below W.heap.size W w'
  s2 : ∀ W g, RowAt W (some ⟨g, 0, none⟩) ys → Calls Try.prog 8 #[.slice (some ⟨g, 0, none⟩) len len, .float .f64 t, .float .f64 scale, .float .f64 p, .float .f64 R, .float .f64 guess] W fun e w' => e = .returned (.float .f64 r) ∧ Below W.heap.size W w'
  dn : ∀ W, Calls Try.prog 9 #[.int .i64 len, .float .f64 p, .float .f64 R] W fun e w' => e = .returned (.int .i64 nd) ∧ W = w'
  lm : ∀ W, RowAt W A1 xs → Calls Try.prog 10 #[.slice A1 len cap1, .float .f64 scale] W fun e w' => e = .returned (.float .f64 L) ∧ W = w'
  ct : ∀ W a, a < 9218868437227405312 → RowAt W A1 xs → Calls Try.prog 11 #[.slice A1 len cap1, .float .f64 a, .float .f64 t] W fun e w' => e = .returned (.int .i64 (cntL xs a t)) ∧ W = w'
  rI : r ≤ 9218868437227405312
  lI : L < 9218868437227405312
  q1 : nd < 0 → r = 9218868437227405312
  q2 : nd = 0 → r = 0
  q3 : 0 < nd → (cntL xs L t : Int) < nd → r = 9218868437227405312
  q4 : 0 < nd → ¬ (cntL xs L t : Int) < nd → r ≤ L ∧ nd ≤ (cntL xs r t : Int)

theorem tail_of (A1 : Option Addr) (cap1 len : Nat) (xs : List Nat) (c t scale p R guess : Nat) (hl : xs.length = len) (hlen : len ≤ 65536) (hc : c ≤ len) (D : Dom xs t scale p R guess) :
    ∃ r L nd, Tail A1 cap1 len xs (rotL xs c) t scale p R guess r L nd := by
  subst hl
  obtain ⟨f1, f2, f3, f4⟩ := ri_facts R D.r
  obtain ⟨r, h1, h2, h3, h4, h5, h6⟩ := result_is xs t scale p R guess hlen D
  have hlim := limW_lt xs scale D.xs D.s2
  have hrl := rot_len xs c hc
  refine ⟨r, limW xs scale, need xs.length p (riOf R), ⟨fun W hW => step_any A1 cap1 xs t scale p R guess r W hlen hW D h1, fun W g hW => ?_, fun W => needed_any xs.length p R (riOf R) W hlen f1 (by have := D.p2; omega) (fun m hm => f3 m (by omega)),
    fun W hW => limit_row A1 cap1 xs t scale p R guess W hlen hW D, fun W a ha hW => count_row A1 cap1 xs a t scale p R guess W hlen hW D ha, h2, by omega, h3, h4, h5, h6⟩⟩
  have := step_any (some ⟨g, 0, none⟩) xs.length (rotL xs c) t scale p R guess r W (by omega) hW (rot_dom xs c t scale p R guess D) (rot_result xs c t scale p R guess r hc h1)
  rw [hrl] at this
  exact this

set_option maxHeartbeats 8000000 in
set_option maxRecDepth 20000 in
theorem main_some (a : Addr) (len cap : Nat) (xs : List Nat) (cut : Int) (t scale p R guess : Nat) (w : World) (hxl : xs.length = len) (hlc : len ≤ cap) (hm : cap ≤ maxLen)
    (hc : ∀ j, j < len → w.cell? (a.add j) = some (.float .f64 (xs.getD j 0)))
    (HD0 : len ≤ 65536 → Calls Try.prog 6 #[.slice (some a) len cap, .float .f64 t, .float .f64 scale, .float .f64 p, .float .f64 R, .float .f64 guess] w fun e w' => RetS (Dom xs t scale p R guess) e ∧ w = w') :
    Calls Try.prog 3 #[.slice (some a) len cap, .int .i64 cut, .float .f64 t, .float .f64 scale, .float .f64 p, .float .f64 R, .float .f64 guess] w fun e w' => e = .returned (.bool true) ∧ Below w.heap.size w w' := by
  have HB : Hid (Calls Try.prog 5 #[.slice (some a) len cap, .int .i64 cut, .float .f64 t, .float .f64 scale, .float .f64 p, .float .f64 R, .float .f64 guess] w fun e w' => RetB e ∧ w = w') := bytes_any (some a) len cap cut _ _ _ _ _ w (by omega)
  by_cases hlb : (65536 : Int) < len
  · clear HD0
    unfold maxLen at hm
    go_enter Try.func3, Try.ntmps3
    go_wp2_with fail
    refine HB.out.mono ?_
    rintro e w' ⟨⟨bb, rfl⟩, rfl⟩
    cases bb
    all_goals
      go_wp2
      go_ret
      exact ⟨rfl, Below.refl _ _⟩
  unfold maxLen at hm
  have hl6 : len ≤ 65536 := by omega
  by_cases hc0 : cut < 0
  · clear HD0
    go_enter Try.func3, Try.ntmps3
    go_wp2_with fail
    refine HB.out.mono ?_
    rintro e w' ⟨⟨bb, rfl⟩, rfl⟩
    cases bb
    all_goals
      go_wp2
      go_ret
      exact ⟨rfl, Below.refl _ _⟩
  by_cases hc1 : (len : Int) < cut
  · clear HD0
    go_enter Try.func3, Try.ntmps3
    go_wp2_with fail
    refine HB.out.mono ?_
    rintro e w' ⟨⟨bb, rfl⟩, rfl⟩
    cases bb
    all_goals
      go_wp2
      go_ret
      exact ⟨rfl, Below.refl _ _⟩
  obtain ⟨c, rfl⟩ : ∃ c : Nat, cut = c := ⟨cut.toNat, by omega⟩
  have hcl : c ≤ len := by omega
  have HD : Hid (Calls Try.prog 6 #[.slice (some a) len cap, .float .f64 t, .float .f64 scale, .float .f64 p, .float .f64 R, .float .f64 guess] w fun e w' => RetS (Dom xs t scale p R guess) e ∧ w = w') := HD0 hl6
  clear HD0 hc1 hc0 hlb
  have hf := fmt64
  have hneq := fun W => run_neq_slice_nil_any (P := Try.prog) W 22 23 (some a) len cap 0 0 Try.underlying22
  have hmk := fun W => run_make_row' (P := Try.prog) 22 23 (.float .f64 0) 8 Try.underlying22 info23 rfl .i64 .i64 len (by omega) (by omega) W
  have hst := fun a b m W => run_store Try.prog W a (.float .f64 b) m rfl
  go_enter Try.func3, Try.ntmps3
  go_wp2_with fail
  refine HB.out.mono ?_
  rintro e w' ⟨⟨bb, rfl⟩, rfl⟩
  cases bb
  · go_wp2
    go_ret
    exact ⟨rfl, Below.refl _ _⟩
  go_wp2_with fail
  refine HD.out.mono ?_
  rintro e w' ⟨⟨bb, rfl, hbb⟩, rfl⟩
  cases bb
  · clear hbb
    go_wp2
    go_ret
    exact ⟨rfl, Below.refl _ _⟩
  have D := hbb rfl
  clear hbb
  obtain ⟨w1, hcopy, hB1, hz1, hcell1⟩ := copy_made w a len cap xs hxl hc
  have HRow1 : Hid (RowAt w1 (some ⟨w.heap.size, 0, none⟩) xs) := .inr ⟨_, _, rfl, fun j hj => by rw [Nat.zero_add]; exact hcell1 j (by omega)⟩
  have HCell1 : Hid _ := hcell1
  have HB1 : Hid (Below w.heap.size w w1) := hB1
  clear hcell1 hc hB1
  obtain ⟨r, L, nd, T0⟩ := tail_of (some ⟨w.heap.size, 0, none⟩) len len xs c t scale p R guess hxl hl6 hcl D
  have T : Hid (Tail (some ⟨w.heap.size, 0, none⟩) len len xs (rotL xs c) t scale p R guess r L nd) := T0
  obtain ⟨os1, os2⟩ := ord_self r T0.rI
  have HX : Hid _ := hxl
  clear T0 D hxl
  go_wp2
  go_loopw [18, 19] (fun i _ wr => ∃ k : Nat, k ≤ len ∧ i = .int .i64 k ∧ Hid (RotAt w1 len (rotL xs c) k wr)) (fun i _ _ => len - (intOf i).toNat)
  case atStart => exact ⟨0, Nat.zero_le _, rfl, rot_start _ _ _⟩
  case round =>
    obtain ⟨k, hk, rfl, hrot⟩ := hrel
    by_cases hlt : k < len
    · obtain ⟨⟨old, hcel⟩, hfz⟩ := rot_cell hrot.out hlt
      have HG : Hid _ := rot_getD xs c k (by rw [HX.out]; exact hcl) (by rw [HX.out]; exact hlt)
      rw [HX.out] at HG
      have HStep : Hid _ := rot_step hrot.out hlt
      by_cases hge : len ≤ k + c
      · obtain ⟨s, hs⟩ : ∃ s, s = k + c := ⟨_, rfl⟩
        obtain ⟨m, hm2⟩ : ∃ m, m = k + c - len := ⟨_, rfl⟩
        have e1 : (k : Int) + (c : Int) = s := by omega
        have e2 : (s : Int) - (len : Int) = m := by omega
        have hms : m < len := by omega
        have hsl : len ≤ s := by omega
        have hs2 : s ≤ 131072 := by omega
        have hcm : wr.cell? ⟨w.heap.size, m, none⟩ = some (.float .f64 (xs.getD m 0)) := by rw [hrot.out.1.cell (p := ⟨w.heap.size, m, none⟩) hz1]; exact HCell1.out m hms
        have HG2 : Hid ((rotL xs c).getD k 0 = xs.getD m 0) := by have := HG.out; rw [if_pos hge, ← hm2] at this; exact this
        obtain ⟨x, hx⟩ : ∃ x, x = xs.getD m 0 := ⟨_, rfl⟩
        rw [← hx] at hcm HG2
        clear hs hm2 hge HG hx hcopy hmk hneq
        go_wp2
        go_roundw
        case rel => exact ⟨k + 1, by omega, by go_num, by have := HStep.out; rw [HG2.out] at this; exact this⟩
        case measure => simp [intOf]; omega
      · obtain ⟨m, hm2⟩ : ∃ m, m = k + c := ⟨_, rfl⟩
        have e1 : (k : Int) + (c : Int) = m := by omega
        have hms : m < len := by omega
        have hcm : wr.cell? ⟨w.heap.size, m, none⟩ = some (.float .f64 (xs.getD m 0)) := by rw [hrot.out.1.cell (p := ⟨w.heap.size, m, none⟩) hz1]; exact HCell1.out m hms
        have HG2 : Hid ((rotL xs c).getD k 0 = xs.getD m 0) := by have := HG.out; rw [if_neg hge, ← hm2] at this; exact this
        obtain ⟨x, hx⟩ : ∃ x, x = xs.getD m 0 := ⟨_, rfl⟩
        rw [← hx] at hcm HG2
        clear hm2 hge HG hx hcopy hmk hneq
        go_wp2
        go_roundw
        case rel => exact ⟨k + 1, by omega, by go_num, by have := HStep.out; rw [HG2.out] at this; exact this⟩
        case measure => simp [intOf]; omega
    · obtain rfl : k = len := by omega
      have HRr : Hid (RowAt wr (some ⟨w.heap.size, 0, none⟩) xs) := HRow1.out.below hrot.out.1
      have HRo : Hid (RowAt wr (some ⟨w1.heap.size, 0, none⟩) (rotL xs c)) := rot_end (by rw [rot_len xs c (by rw [HX.out]; exact hcl)]; exact HX.out) hrot.out
      have HBr : Hid (Below w.heap.size w wr) := HB1.out.trans (hrot.out.1.mono HB1.out.size)
      clear hcopy hmk hneq hst
      have HInf : Hid (∀ W, Calls Try.prog 7 #[] W fun e w' => e = .returned (.float .f64 9218868437227405312) ∧ W = w') := zzinf_any
      rcases Int.lt_trichotomy nd 0 with hn | hn | hn
      · have hr : r = 9218868437227405312 := T.out.q1 hn
        have hri : (double.order r 9218868437227405312 == some .eq) = true := by rw [hr] at os2 ⊢; exact os2
        clear hr
        go_wp2_with fail
        refine Calls.mono (HInf.out _) ?_
        rintro e w' ⟨rfl, rfl⟩
        go_wp2_with fail
        refine Calls.mono (T.out.s1 _ HRr.out) ?_
        rintro e wa ⟨rfl, hba⟩
        have HBa : Hid _ := hba
        clear hba
        go_wp2_with fail
        refine Calls.mono (T.out.s2 _ _ (HRo.out.below HBa.out)) ?_
        rintro e wb ⟨rfl, hbb⟩
        have HBb : Hid (Below w.heap.size w wb) := (HBr.out.trans (HBa.out.mono HBr.out.size)).trans (hbb.mono (Nat.le_trans HBr.out.size HBa.out.size))
        have HRb : Hid (RowAt wb (some ⟨w.heap.size, 0, none⟩) xs) := (HRr.out.below HBa.out).below hbb
        clear hbb
        go_wp2_with fail
        refine Calls.mono (T.out.dn _) ?_
        rintro e w' ⟨rfl, rfl⟩
        go_wp2
        go_ret
        exact ⟨rfl, HBb.out⟩
      · have hr : r = 0 := T.out.q2 hn
        have hri : (double.order r 0 == some .eq) = true := by rw [hr] at os2 ⊢; exact os2
        clear hr
        go_wp2_with fail
        refine Calls.mono (HInf.out _) ?_
        rintro e w' ⟨rfl, rfl⟩
        go_wp2_with fail
        refine Calls.mono (T.out.s1 _ HRr.out) ?_
        rintro e wa ⟨rfl, hba⟩
        have HBa : Hid _ := hba
        clear hba
        go_wp2_with fail
        refine Calls.mono (T.out.s2 _ _ (HRo.out.below HBa.out)) ?_
        rintro e wb ⟨rfl, hbb⟩
        have HBb : Hid (Below w.heap.size w wb) := (HBr.out.trans (HBa.out.mono HBr.out.size)).trans (hbb.mono (Nat.le_trans HBr.out.size HBa.out.size))
        have HRb : Hid (RowAt wb (some ⟨w.heap.size, 0, none⟩) xs) := (HRr.out.below HBa.out).below hbb
        clear hbb
        go_wp2_with fail
        refine Calls.mono (T.out.dn _) ?_
        rintro e w' ⟨rfl, rfl⟩
        go_wp2
        go_ret
        exact ⟨rfl, HBb.out⟩
      · by_cases hcn : (cntL xs L t : Int) < nd
        · have hr : r = 9218868437227405312 := T.out.q3 hn hcn
          have hri : (double.order r 9218868437227405312 == some .eq) = true := by rw [hr] at os2 ⊢; exact os2
          clear hr
          go_wp2_with fail
          refine Calls.mono (HInf.out _) ?_
          rintro e w' ⟨rfl, rfl⟩
          go_wp2_with fail
          refine Calls.mono (T.out.s1 _ HRr.out) ?_
          rintro e wa ⟨rfl, hba⟩
          have HBa : Hid _ := hba
          clear hba
          go_wp2_with fail
          refine Calls.mono (T.out.s2 _ _ (HRo.out.below HBa.out)) ?_
          rintro e wb ⟨rfl, hbb⟩
          have HBb : Hid (Below w.heap.size w wb) := (HBr.out.trans (HBa.out.mono HBr.out.size)).trans (hbb.mono (Nat.le_trans HBr.out.size HBa.out.size))
          have HRb : Hid (RowAt wb (some ⟨w.heap.size, 0, none⟩) xs) := (HRr.out.below HBa.out).below hbb
          clear hbb
          go_wp2_with fail
          refine Calls.mono (T.out.dn _) ?_
          rintro e w' ⟨rfl, rfl⟩
          go_wp2_with fail
          refine Calls.mono (T.out.lm _ HRb.out) ?_
          rintro e w' ⟨rfl, rfl⟩
          go_wp2_with fail
          refine Calls.mono (T.out.ct _ _ T.out.lI HRb.out) ?_
          rintro e w' ⟨rfl, rfl⟩
          go_wp2
          go_ret
          exact ⟨rfl, HBb.out⟩
        · obtain ⟨hr, hcr⟩ := T.out.q4 hn hcn
          have hle := leB_pos r L T.out.rI (Nat.le_of_lt T.out.lI)
          rw [decide_eq_true hr] at hle
          unfold leB at hle
          have HrI : Hid (r < 9218868437227405312) := Nat.lt_of_le_of_lt hr T.out.lI
          clear hr
          go_wp2_with fail
          refine Calls.mono (HInf.out _) ?_
          rintro e w' ⟨rfl, rfl⟩
          go_wp2_with fail
          refine Calls.mono (T.out.s1 _ HRr.out) ?_
          rintro e wa ⟨rfl, hba⟩
          have HBa : Hid _ := hba
          clear hba
          go_wp2_with fail
          refine Calls.mono (T.out.s2 _ _ (HRo.out.below HBa.out)) ?_
          rintro e wb ⟨rfl, hbb⟩
          have HBb : Hid (Below w.heap.size w wb) := (HBr.out.trans (HBa.out.mono HBr.out.size)).trans (hbb.mono (Nat.le_trans HBr.out.size HBa.out.size))
          have HRb : Hid (RowAt wb (some ⟨w.heap.size, 0, none⟩) xs) := (HRr.out.below HBa.out).below hbb
          clear hbb
          go_wp2_with fail
          refine Calls.mono (T.out.dn _) ?_
          rintro e w' ⟨rfl, rfl⟩
          go_wp2_with fail
          refine Calls.mono (T.out.lm _ HRb.out) ?_
          rintro e w' ⟨rfl, rfl⟩
          go_wp2_with fail
          refine Calls.mono (T.out.ct _ _ T.out.lI HRb.out) ?_
          rintro e w' ⟨rfl, rfl⟩
          go_wp2_with fail
          refine Calls.mono (T.out.ct _ _ HrI.out HRb.out) ?_
          rintro e w' ⟨rfl, rfl⟩
          go_wp2
          go_ret
          exact ⟨rfl, HBb.out⟩

end Go.Proofs.Qxb6615185a
