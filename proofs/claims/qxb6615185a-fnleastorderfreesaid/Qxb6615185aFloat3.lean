/-
  DERIVED. Seat b6615185a: the operations on words, as bounds on rungs. Nothing of Go in it.
-/
import Derived.Test.Qxb6615185aFloat2
namespace Go.Proofs.Qxb6615185a
set_option linter.unusedVariables false
open Ieee

def mg (x : Nat) : Nat := if x < 4503599627370496 then x else 4503599627370496 + x % 4503599627370496
def pl (x : Nat) : Int := if x < 4503599627370496 then -1074 else -1074 + ((x / 4503599627370496 - 1 : Nat) : Int)

theorem pl_ge (x : Nat) : -1074 ≤ pl x := by unfold pl; split <;> omega
theorem mg_V (x : Nat) : mg x * 2 ^ (pl x + 1074).toNat = V x := by
  unfold mg pl V
  split
  · simp
  · congr 2; omega
theorem mg_zero (x : Nat) : mg x = 0 ↔ x = 0 := by unfold mg; split <;> omega
theorem dbl_sw : double.signWeight = 9223372036854775808 := by decide
theorem dbl_b : double.binade = 4503599627370496 := by decide
theorem dbl_ir : double.infRung = 9218868437227405312 := by decide
theorem dbl_lp : double.leastPlace = -1074 := by decide

theorem word_true (r : Nat) : double.word true r = 9223372036854775808 + r := by unfold Format.word; rw [dbl_sw]; rfl
theorem word_false (r : Nat) : double.word false r = r := rfl

theorem read_at (s : Bool) (x : Nat) (h : x < 9218868437227405312) : double.read (double.word s x) = .number s (mg x) (pl x) := by
  unfold Format.read mg pl
  rw [dbl_sw, dbl_b, dbl_ir, dbl_lp]
  cases s
  · rw [word_false]
    have e1 : (x / 9223372036854775808 % 2 == 1) = false := by simp; omega
    have e2 : x % 9223372036854775808 = x := by omega
    simp only [e1, e2]
    split
    · rfl
    · first | rfl | rw [if_pos h]
  · rw [word_true]
    have e1 : ((9223372036854775808 + x) / 9223372036854775808 % 2 == 1) = true := by simp; omega
    have e2 : (9223372036854775808 + x) % 9223372036854775808 = x := by omega
    simp only [e1, e2]
    split
    · rfl
    · first | rfl | rw [if_pos h]
theorem read_inf (s : Bool) : double.read (double.word s 9218868437227405312) = .infinity s := by
  unfold Format.read
  rw [dbl_sw, dbl_b, dbl_ir, dbl_lp]
  cases s
  · rw [word_false]
    have e1 : (9218868437227405312 / 9223372036854775808 % 2 == 1) = false := by decide
    have e2 : 9218868437227405312 % 9223372036854775808 = 9218868437227405312 := by omega
    simp only [e1, e2]
    rw [if_neg (by omega), if_neg (by omega)]; simp
  · rw [word_true]
    have e1 : ((9223372036854775808 + 9218868437227405312) / 9223372036854775808 % 2 == 1) = true := by decide
    have e2 : (9223372036854775808 + 9218868437227405312) % 9223372036854775808 = 9218868437227405312 := by omega
    simp only [e1, e2]
    rw [if_neg (by omega), if_neg (by omega)]; simp

/-- What a number is written as. -/
theorem write_num (s : Bool) (m : Nat) (p : Int) : double.write (.number s m p) = double.word s (if m = 0 then 0 else min (rnd m p) 9218868437227405312) := by
  show double.nearest s m p = _
  by_cases h : m = 0
  · subst h; rw [if_pos rfl]; unfold Format.nearest; rw [if_pos rfl]
  · rw [if_neg h, nearest_eq s m p h, dbl_ir]

/-- The rung that is written for 'm * 2 ^ p'. -/
def rw_ (m : Nat) (p : Int) : Nat := if m = 0 then 0 else min (rnd m p) 9218868437227405312
theorem write_rw (s : Bool) (m : Nat) (p : Int) : double.write (.number s m p) = double.word s (rw_ m p) := write_num s m p
theorem rw_le (m : Nat) (p : Int) : rw_ m p ≤ 9218868437227405312 := by unfold rw_; split <;> omega
/-- In units, where the place is no less than the least: from below. -/
theorem rw_ge (m : Nat) (p : Int) (hp : -1074 ≤ p) (z : Nat) (hz : z ≤ 9218868437227405312) (h : V z ≤ m * 2 ^ (p + 1074).toNat) : z ≤ rw_ m p := by
  unfold rw_
  by_cases hm : m = 0
  · rw [if_pos hm]
    subst hm
    rw [Nat.zero_mul] at h
    have := V_zero
    have := V_le_iff.1 (show V z ≤ V 0 by omega)
    omega
  · rw [if_neg hm]
    have := rnd_ge m p hm z (by rw [show (-(p + 1074)).toNat = 0 by omega]; simpa using h)
    omega
theorem rw_le_of (m : Nat) (p : Int) (hp : -1074 ≤ p) (z : Nat) (h : m * 2 ^ (p + 1074).toNat ≤ V z) : rw_ m p ≤ z := by
  unfold rw_
  by_cases hm : m = 0
  · rw [if_pos hm]; omega
  · rw [if_neg hm]
    have := rnd_le m p hm z (by rw [show (-(p + 1074)).toNat = 0 by omega]; simpa using h)
    omega

/-! ### The order -/

theorem signed_eq (s : Bool) (m u : Nat) : signed s m u = if s then -((m * 2 ^ u : Nat) : Int) else ((m * 2 ^ u : Nat) : Int) := by
  unfold signed; rw [Nat.shiftLeft_eq]

theorem scale_V (x : Nat) (b : Int) (hb : -1074 ≤ b) (hx : b ≤ pl x) : mg x * 2 ^ (pl x - b).toNat * 2 ^ (b + 1074).toNat = V x := by
  rw [Nat.mul_assoc, ← Nat.pow_add, ← mg_V]; congr 2; omega

theorem cmpI_lt {x y : Int} (h : x < y) : compare x y = .lt := by simp only [compare, compareOfLessAndEq]; rw [if_pos h]
theorem cmpI_eq {x y : Int} (h : x = y) : compare x y = .eq := by simp only [compare, compareOfLessAndEq]; rw [if_neg (by omega), if_pos h]
theorem cmpI_gt {x y : Int} (h : y < x) : compare x y = .gt := by simp only [compare, compareOfLessAndEq]; rw [if_neg (by omega), if_neg (by omega)]
theorem cmpN_lt {x y : Nat} (h : x < y) : compare x y = .lt := by simp only [compare, compareOfLessAndEq]; rw [if_pos h]
theorem cmpN_eq {x y : Nat} (h : x = y) : compare x y = .eq := by simp only [compare, compareOfLessAndEq]; rw [if_neg (by omega), if_pos h]
theorem cmpN_gt {x y : Nat} (h : y < x) : compare x y = .gt := by simp only [compare, compareOfLessAndEq]; rw [if_neg (by omega), if_neg (by omega)]
theorem cmp_of (a b : Nat) (c d k : Nat) (hk : 0 < k) (h1 : a * k = c) (h2 : b * k = d) : compare ((a : Nat) : Int) ((b : Nat) : Int) = compare c d := by
  rcases Nat.lt_trichotomy a b with h | h | h
  · have := Nat.mul_lt_mul_of_pos_right h hk
    rw [cmpI_lt (by omega), cmpN_lt (by omega)]
  · subst h; rw [cmpI_eq rfl, cmpN_eq (by omega)]
  · have := Nat.mul_lt_mul_of_pos_right h hk
    rw [cmpI_gt (by omega), cmpN_gt (by omega)]

theorem cmp_V (x y : Nat) : compare (V x) (V y) = compare x y := by
  rcases Nat.lt_trichotomy x y with h | h | h
  · rw [cmpN_lt h, cmpN_lt (V_strict h)]
  · subst h; rw [cmpN_eq rfl, cmpN_eq rfl]
  · rw [cmpN_gt h, cmpN_gt (V_strict h)]

theorem order_pos (x y : Nat) (hx : x ≤ 9218868437227405312) (hy : y ≤ 9218868437227405312) : double.order x y = some (compare x y) := by
  unfold Format.order
  have rx : double.read x = if x = 9218868437227405312 then .infinity false else .number false (mg x) (pl x) := by
    by_cases h : x = 9218868437227405312
    · rw [if_pos h, h]; exact read_inf false
    · rw [if_neg h]; exact read_at false x (by omega)
  have ry : double.read y = if y = 9218868437227405312 then .infinity false else .number false (mg y) (pl y) := by
    by_cases h : y = 9218868437227405312
    · rw [if_pos h, h]; exact read_inf false
    · rw [if_neg h]; exact read_at false y (by omega)
  rw [rx, ry]
  by_cases h1 : x = 9218868437227405312 <;> by_cases h2 : y = 9218868437227405312
  · rw [if_pos h1, if_pos h2, h1, h2]; rfl
  · rw [if_pos h1, if_neg h2]
    show some Ordering.gt = _
    rw [cmpN_gt (by omega)]
  · rw [if_neg h1, if_pos h2]
    show some Ordering.lt = _
    rw [cmpN_lt (by omega)]
  · rw [if_neg h1, if_neg h2]
    show some (compare (signed false (mg x) (pl x - min (pl x) (pl y)).toNat) (signed false (mg y) (pl y - min (pl x) (pl y)).toNat)) = _
    congr 1
    have px := pl_ge x
    have py := pl_ge y
    rw [signed_eq, signed_eq, ← cmp_V x y]
    exact cmp_of _ _ _ _ (2 ^ (min (pl x) (pl y) + 1074).toNat) (Nat.two_pow_pos _) (scale_V x _ (by omega) (by omega)) (scale_V y _ (by omega) (by omega))

/-! ### Sums and differences of words that are no less than nought -/

theorem add_pos (x y : Nat) (hx : x < 9218868437227405312) (hy : y < 9218868437227405312) : ∃ r, double.add x y = some r ∧ r ≤ 9218868437227405312 ∧ (∀ z, z ≤ 9218868437227405312 → V z ≤ V x + V y → z ≤ r) ∧ (∀ z, V x + V y ≤ V z → r ≤ z) := by
  have px := pl_ge x
  have py := pl_ge y
  have e : double.add x y = some (double.write (.number (if (signed false (mg x) (pl x - min (pl x) (pl y)).toNat + signed false (mg y) (pl y - min (pl x) (pl y)).toNat) = 0 then false && false else (signed false (mg x) (pl x - min (pl x) (pl y)).toNat + signed false (mg y) (pl y - min (pl x) (pl y)).toNat) < 0) (signed false (mg x) (pl x - min (pl x) (pl y)).toNat + signed false (mg y) (pl y - min (pl x) (pl y)).toNat).natAbs (min (pl x) (pl y)))) := by
    unfold Format.add
    rw [show double.read x = _ from read_at false x hx, show double.read y = _ from read_at false y hy]
    rfl
  have s1 := scale_V x (min (pl x) (pl y)) (by omega) (by omega)
  have s2 := scale_V y (min (pl x) (pl y)) (by omega) (by omega)
  rw [signed_eq, signed_eq] at e
  simp only [Bool.false_eq_true, if_false] at e
  generalize hA : mg x * 2 ^ (pl x - min (pl x) (pl y)).toNat = A at *
  generalize hB : mg y * 2 ^ (pl y - min (pl x) (pl y)).toNat = C at *
  have e1 : (((A : Nat) : Int) + ((C : Nat) : Int)).natAbs = A + C := by omega
  have e2 : (if (((A : Nat) : Int) + ((C : Nat) : Int)) = 0 then false && false else decide ((((A : Nat) : Int) + ((C : Nat) : Int)) < 0)) = false := by
    split
    · rfl
    · simp; omega
  rw [e1, e2, write_rw, word_false] at e
  refine ⟨_, e, rw_le _ _, fun z hz h => rw_ge _ _ (by omega) z hz ?_, fun z h => rw_le_of _ _ (by omega) z ?_⟩
  · rw [Nat.add_mul, s1, s2]; exact h
  · rw [Nat.add_mul, s1, s2]; exact h

theorem sub_pos (x y : Nat) (hx : x < 9218868437227405312) (hy : y < 9218868437227405312) (hxy : y ≤ x) : ∃ r, double.sub x y = some r ∧ r ≤ 9218868437227405312 ∧ (∀ z, z ≤ 9218868437227405312 → V z ≤ V x - V y → z ≤ r) ∧ (∀ z, V x - V y ≤ V z → r ≤ z) := by
  have px := pl_ge x
  have py := pl_ge y
  have hV := V_mono hxy
  have e : double.sub x y = some (double.write (.number (if (signed false (mg x) (pl x - min (pl x) (pl y)).toNat + signed true (mg y) (pl y - min (pl x) (pl y)).toNat) = 0 then false && true else (signed false (mg x) (pl x - min (pl x) (pl y)).toNat + signed true (mg y) (pl y - min (pl x) (pl y)).toNat) < 0) (signed false (mg x) (pl x - min (pl x) (pl y)).toNat + signed true (mg y) (pl y - min (pl x) (pl y)).toNat).natAbs (min (pl x) (pl y)))) := by
    unfold Format.sub
    rw [show double.read x = _ from read_at false x hx, show double.read y = _ from read_at false y hy]
    rfl
  have s1 := scale_V x (min (pl x) (pl y)) (by omega) (by omega)
  have s2 := scale_V y (min (pl x) (pl y)) (by omega) (by omega)
  rw [signed_eq, signed_eq] at e
  simp only [Bool.false_eq_true, if_false, if_true] at e
  generalize hA : mg x * 2 ^ (pl x - min (pl x) (pl y)).toNat = A at *
  generalize hB : mg y * 2 ^ (pl y - min (pl x) (pl y)).toNat = C at *
  have hk := Nat.two_pow_pos (min (pl x) (pl y) + 1074).toNat
  have hCA : C ≤ A := by
    apply Nat.le_of_mul_le_mul_right _ hk
    rw [s1, s2]; exact hV
  have e1 : (((A : Nat) : Int) + -((C : Nat) : Int)).natAbs = A - C := by omega
  have e2 : (if (((A : Nat) : Int) + -((C : Nat) : Int)) = 0 then false && true else decide ((((A : Nat) : Int) + -((C : Nat) : Int)) < 0)) = false := by
    split
    · rfl
    · simp; omega
  rw [e1, e2, write_rw, word_false] at e
  refine ⟨_, e, rw_le _ _, fun z hz h => rw_ge _ _ (by omega) z hz ?_, fun z h => rw_le_of _ _ (by omega) z ?_⟩
  · rw [Nat.sub_mul, s1, s2]; exact h
  · rw [Nat.sub_mul, s1, s2]; exact h

/-- A difference below nought: its sign is set, and it is not nought. -/
theorem sub_neg (x y : Nat) (hx : x < 9218868437227405312) (hy : y < 9218868437227405312) (hxy : x < y) : ∃ r, double.sub x y = some (9223372036854775808 + r) ∧ 1 ≤ r ∧ r ≤ y := by
  have px := pl_ge x
  have py := pl_ge y
  have hV := V_strict hxy
  have e : double.sub x y = some (double.write (.number (if (signed false (mg x) (pl x - min (pl x) (pl y)).toNat + signed true (mg y) (pl y - min (pl x) (pl y)).toNat) = 0 then false && true else (signed false (mg x) (pl x - min (pl x) (pl y)).toNat + signed true (mg y) (pl y - min (pl x) (pl y)).toNat) < 0) (signed false (mg x) (pl x - min (pl x) (pl y)).toNat + signed true (mg y) (pl y - min (pl x) (pl y)).toNat).natAbs (min (pl x) (pl y)))) := by
    unfold Format.sub
    rw [show double.read x = _ from read_at false x hx, show double.read y = _ from read_at false y hy]
    rfl
  have s1 := scale_V x (min (pl x) (pl y)) (by omega) (by omega)
  have s2 := scale_V y (min (pl x) (pl y)) (by omega) (by omega)
  rw [signed_eq, signed_eq] at e
  simp only [Bool.false_eq_true, if_false, if_true] at e
  generalize hA : mg x * 2 ^ (pl x - min (pl x) (pl y)).toNat = A at *
  generalize hB : mg y * 2 ^ (pl y - min (pl x) (pl y)).toNat = C at *
  have hk := Nat.two_pow_pos (min (pl x) (pl y) + 1074).toNat
  have hCA : A < C := by
    apply Nat.lt_of_mul_lt_mul_right (a := 2 ^ (min (pl x) (pl y) + 1074).toNat)
    rw [s1, s2]; exact hV
  have e1 : (((A : Nat) : Int) + -((C : Nat) : Int)).natAbs = C - A := by omega
  have e2 : (if (((A : Nat) : Int) + -((C : Nat) : Int)) = 0 then false && true else decide ((((A : Nat) : Int) + -((C : Nat) : Int)) < 0)) = true := by
    rw [if_neg (by omega)]; simp; omega
  rw [e1, e2, write_rw, word_true] at e
  refine ⟨_, e, rw_ge _ _ (by omega) 1 (by omega) ?_, rw_le_of _ _ (by omega) y ?_⟩
  · rw [Nat.sub_mul, s1, s2]
    have := V_succ 0
    have := V_zero
    simp at *
    omega
  · rw [Nat.sub_mul, s1, s2]; omega

end Go.Proofs.Qxb6615185a
