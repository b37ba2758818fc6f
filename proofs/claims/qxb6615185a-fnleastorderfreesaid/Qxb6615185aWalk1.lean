/-
  DERIVED. Seat b6615185a: the walks of the small functions.
-/
import Derived.Test.Qxb6615185aRows
import Derived.Test.Qxb6615185aLeast
import Derived.WalkKit
import Derived.WalkSpells
import Derived.WalkLawsBesides
namespace Go.Proofs.Qxb6615185a
open Go.RowKit
open Ieee (double)
set_option linter.unusedVariables false

theorem fmt64 : FloatKind.f64.format = double := rfl

/-- An operation on floats that has an answer. -/
theorem run_add {x y r : Nat} (h : double.add x y = some r) (w : World) : (binOp .add 23 (.float .f64 x) (.float .f64 y)).run Try.prog w = .ok (.float .f64 r) w := run_float_arith w .add 23 .f64 x y r h
theorem run_sub {x y r : Nat} (h : double.sub x y = some r) (w : World) : (binOp .sub 23 (.float .f64 x) (.float .f64 y)).run Try.prog w = .ok (.float .f64 r) w := run_float_arith w .sub 23 .f64 x y r h
theorem run_mul {x y r : Nat} (h : double.mul x y = some r) (w : World) : (binOp .mul 23 (.float .f64 x) (.float .f64 y)).run Try.prog w = .ok (.float .f64 r) w := run_float_arith w .mul 23 .f64 x y r h
theorem run_div {x y r : Nat} (h : double.div x y = some r) (w : World) : (binOp .quo 23 (.float .f64 x) (.float .f64 y)).run Try.prog w = .ok (.float .f64 r) w := run_float_arith w .quo 23 .f64 x y r h

def geB (x y : Nat) : Bool := double.order x y == some .gt || double.order x y == some .eq
def cntL (xs : List Nat) (a t : Nat) : Nat := (xs.filter fun f => geB (mulW a f) t).length

theorem cnt_succ (xs : List Nat) (a t k : Nat) (hk : k < xs.length) : cntL (xs.take (k + 1)) a t = cntL (xs.take k) a t + if geB (mulW a (xs.getD k 0)) t then 1 else 0 := by
  unfold cntL
  rw [List.take_succ_eq_append_getElem hk, List.filter_append, List.length_append]
  have : xs.getD k 0 = xs[k] := by rw [List.getD_eq_getElem?_getD, List.getElem?_eq_getElem hk]; rfl
  rw [this]
  by_cases h : geB (mulW a xs[k]) t = true <;> simp [h]
theorem cnt_le (xs : List Nat) (a t : Nat) : cntL xs a t ≤ xs.length := List.length_filter_le _ _

set_option maxHeartbeats 400000 in
theorem reach_any (x t b : Nat) (w : World) (h : w.cell? ⟨b, 0, none⟩ = some (.float .f64 t)) :
    Calls Try.prog 13 #[.float .f64 x, .pointer (some ⟨b, 0, none⟩)] w fun e w' => e = .returned (.float .f64 (if geB x t then 4607182418800017408 else 0)) ∧ w = w' := by
  have hf := fmt64
  by_cases hb : geB x t = true
  · rw [if_pos hb]
    unfold geB at hb
    go_enter Try.func13, Try.ntmps13
    go_wp2
    go_ret
    exact ⟨rfl, rfl⟩
  · rw [if_neg hb]
    have hb' : geB x t = false := by simpa using hb
    clear hb
    unfold geB at hb'
    go_enter Try.func13, Try.ntmps13
    go_wp2
    go_ret
    exact ⟨rfl, rfl⟩

set_option maxHeartbeats 400000 in
theorem count_some (b o len cap : Nat) (xs : List Nat) (a t : Nat) (w : World) (hl : xs.length = len) (hlen : len ≤ 65536) (hc : ∀ j, j < len → w.cell? ⟨b, o + j, none⟩ = some (.float .f64 (xs.getD j 0)))
    (hm : ∀ j, j < len → double.mul a (xs.getD j 0) = some (mulW a (xs.getD j 0))) :
    Calls Try.prog 11 #[.slice (some ⟨b, o, none⟩) len cap, .float .f64 a, .float .f64 t] w fun e w' => e = .returned (.int .i64 (cntL xs a t)) ∧ w = w' := by
  have hf := fmt64
  have HL : Hid _ := hl
  clear hl
  go_enter Try.func11, Try.ntmps11
  go_wp2
  go_loop [7, 8] (fun n i => ∃ k : Nat, k ≤ len ∧ i = .int .i64 k ∧ n = .int .i64 (cntL (xs.take k) a t)) (fun _ i => len - (intOf i).toNat)
  case atStart => exact ⟨0, Nat.zero_le _, rfl, rfl⟩
  case round =>
    obtain ⟨k, hk, rfl, rfl⟩ := hrel
    by_cases hlt : k < len
    · have hcell := hc k hlt
      have hmul := run_mul (hm k hlt)
      have hs : Hid _ := cnt_succ xs a t k (by rw [HL.out]; exact hlt)
      have hb : cntL (xs.take k) a t ≤ k := Nat.le_trans (cnt_le _ _ _) (List.length_take_le _ _)
      clear hc hm
      obtain ⟨x, hx⟩ : ∃ x, x = xs.getD k 0 := ⟨_, rfl⟩
      rw [← hx] at hcell hmul hs
      clear hx
      by_cases hg : geB (mulW a x) t = true
      · have hg' := hg
        unfold geB at hg'
        have HG : Hid _ := hg
        clear hg
        go_wp2
        go_round
        case rel => exact ⟨k + 1, by omega, by go_num, by rw [hs.out, if_pos HG.out]; go_num⟩
        case measure => simp [intOf]; omega
      · have hg' : geB (mulW a x) t = false := by simpa using hg
        unfold geB at hg'
        have HG : Hid _ := hg
        clear hg
        go_wp2
        go_round
        case rel => exact ⟨k + 1, by omega, by go_num, by rw [hs.out, if_neg HG.out]; go_num⟩
        case measure => simp [intOf]; omega
    · clear hc hm
      obtain rfl : k = len := by omega
      have e : xs.take k = xs := by rw [← HL.out, List.take_length]
      rw [e]
      go_wp2
      go_ret
      exact ⟨rfl, rfl⟩


theorem foi (n : Nat) : floatOfInt .f64 (n : Int) = fi n := by
  show double.write (.number (decide ((n : Int) < 0)) (n : Int).natAbs 0) = _
  have e : decide ((n : Int) < 0) = false := by simp
  rw [e, Int.natAbs_natCast, write_rw, word_false]; rfl

/-- How far a's chance is from p. -/
def shortW (xs : List Nat) (t ri p a : Nat) : Nat := subW (qi (ri + cntL xs a t) (xs.length + 1)) p

/-- What the sum so far is. -/
def SumIs (s ri c k : Nat) : Prop := double.add s 0 = some (fi (ri + c)) ∧ double.add s 4607182418800017408 = some (fi (ri + c + 1)) ∧ (0 < k → s = fi (ri + c))
theorem sumIs_fi (ri c k : Nat) (h : ri + c < 131072) : SumIs (fi (ri + c)) ri c k :=
  ⟨add_zero _ (by have := (fi_V (ri + c) (by omega)).2; omega), add_fi _ h, fun _ => rfl⟩

theorem sub_some (x p : Nat) (hx : x < 9218868437227405312) (hp : p < 9218868437227405312) : double.sub x p = some (subW x p) := by
  by_cases h : p ≤ x
  · obtain ⟨r, hr, _⟩ := sub_pos x p hx hp h
    unfold subW; rw [hr]; rfl
  · obtain ⟨r, hr, _⟩ := sub_neg x p hx hp (by omega)
    unfold subW; rw [hr]; rfl

set_option maxHeartbeats 1000000 in
theorem short_any (b1 b2 b3 bt b o cap R ri p t a : Nat) (xs : List Nat) (w : World) (hlen : xs.length ≤ 65536) (hri : ri ≤ 1) (hp : p < 9218868437227405312)
    (c1 : w.cell? ⟨b1, 0, none⟩ = some (.float .f64 R)) (c2 : w.cell? ⟨b2, 0, none⟩ = some (.func (Fn.func 13) #[] #[.pointer (some ⟨bt, 0, none⟩)])) (c3 : w.cell? ⟨b2, 1, none⟩ = some (.slice (some ⟨b, o, none⟩) xs.length cap))
    (c4 : w.cell? ⟨b3, 0, none⟩ = some (.float .f64 p)) (c5 : w.cell? ⟨bt, 0, none⟩ = some (.float .f64 t))
    (hc : ∀ j, j < xs.length → w.cell? ⟨b, o + j, none⟩ = some (.float .f64 (xs.getD j 0))) (hm : ∀ j, j < xs.length → double.mul a (xs.getD j 0) = some (mulW a (xs.getD j 0)))
    (hR : SumIs R ri 0 0) (hR0 : xs.length = 0 → R = fi ri) :
    Calls Try.prog 15 #[.float .f64 a, .pointer (some ⟨b1, 0, none⟩), .pointer (some ⟨b2, 0, none⟩), .pointer (some ⟨b3, 0, none⟩)] w fun e w' => e = .returned (.float .f64 (shortW xs t ri p a)) ∧ w = w' := by
  have hf := fmt64
  have HR : Hid _ := hR
  have HR0 : Hid _ := hR0
  clear hR hR0
  obtain ⟨len, hln⟩ : ∃ len, len = xs.length := ⟨_, rfl⟩
  rw [← hln] at hlen c3 hc hm HR0
  have HL : Hid _ := hln
  clear hln
  have hfo := foi (len + 1)
  rw [show ((len + 1 : Nat) : Int) = (len : Int) + 1 by omega] at hfo
  go_enter Try.func15, Try.ntmps15
  go_wp2_with fail
  go_loop [6, 8, 13] (fun s _ i => ∃ k sw : Nat, k ≤ len ∧ i = .int .i64 k ∧ s = .float .f64 sw ∧ Hid (SumIs sw ri (cntL (xs.take k) a t) k ∧ (k = 0 → sw = R))) (fun _ _ i => len - (intOf i).toNat)
  case atStart => exact ⟨0, R, Nat.zero_le _, rfl, rfl, HR.out, fun _ => rfl⟩
  case round =>
    obtain ⟨k, sw, hk, rfl, rfl, hsum⟩ := hrel
    by_cases hlt : k < len
    · have hcell := hc k hlt
      have hmul := run_mul (hm k hlt)
      have hs : Hid _ := cnt_succ xs a t k (by rw [← HL.out]; exact hlt)
      have hb : cntL (xs.take k) a t ≤ k := Nat.le_trans (cnt_le _ _ _) (List.length_take_le _ _)
      have hadd0 := run_add hsum.out.1.1
      have hadd1 := run_add hsum.out.1.2.1
      clear hc hm
      obtain ⟨x, hx⟩ : ∃ x, x = xs.getD k 0 := ⟨_, rfl⟩
      rw [← hx] at hcell hmul hs
      clear hx
      go_wp2_with fail
      refine (reach_any _ t bt _ c5).mono ?_
      rintro e w1 ⟨rfl, rfl⟩
      by_cases hg : geB (mulW a x) t = true
      · rw [if_pos hg]
        have HG : Hid _ := hg
        clear hg
        go_wp2
        go_round
        case rel => exact ⟨k + 1, _, by omega, by go_num, rfl, by rw [hs.out, if_pos HG.out]; exact ⟨sumIs_fi ri (cntL (xs.take k) a t + 1) (k + 1) (by omega), fun h => by omega⟩⟩
        case measure => simp [intOf]; omega
      · rw [if_neg hg]
        have HG : Hid _ := hg
        clear hg
        go_wp2
        go_round
        case rel => exact ⟨k + 1, _, by omega, by go_num, rfl, by rw [hs.out, if_neg HG.out, Nat.add_zero]; exact ⟨sumIs_fi ri (cntL (xs.take k) a t) (k + 1) (by omega), fun h => by omega⟩⟩
        case measure => simp [intOf]; omega
    · clear hc hm
      obtain rfl : k = len := by omega
      have e : xs.take k = xs := by rw [HL.out, List.take_length]
      rw [e] at hsum
      have hb : cntL xs a t ≤ k := by rw [HL.out]; exact cnt_le _ _ _
      have hsw : sw = fi (ri + cntL xs a t) := by
        by_cases h0 : k = 0
        · have h2 : cntL xs a t = 0 := by omega
          rw [h2, Nat.add_zero, hsum.out.2 h0]
          exact HR0.out h0
        · exact hsum.out.1.2.2 (by omega)
      have hdiv := run_div (qi_near (ri + cntL xs a t) (k + 1) (by omega) (by omega) (by omega)).1
      have hq := qi_le_one (ri + cntL xs a t) (k + 1) (by omega) (by omega) (by omega)
      have hsub := run_sub (sub_some (qi (ri + cntL xs a t) (k + 1)) p (by omega) hp)
      have hfin : Hid (shortW xs t ri p a = subW (qi (ri + cntL xs a t) (k + 1)) p) := by unfold shortW; rw [← HL.out]; rfl
      subst hsw
      clear hsum
      go_wp2
      go_ret
      exact ⟨by rw [hfin.out]; rfl, rfl⟩

end Go.Proofs.Qxb6615185a
