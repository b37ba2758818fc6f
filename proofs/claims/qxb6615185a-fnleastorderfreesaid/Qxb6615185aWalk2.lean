/-
  DERIVED. Seat b6615185a: the built-ins max and min, NaNs, finite words; math.Inf, math.IsInf, zzInf.
-/
import Derived.Test.Qxb6615185aWalk1
namespace Go.Proofs.Qxb6615185a
open Go.RowKit
open Ieee (double Datum)
set_option linter.unusedVariables false

theorem run_max_of (x y m : Nat) (ts : Array TypeId) (ty : TypeId) (W : World) (h : (double.order x y = some .lt ∧ m = y) ∨ (double.order x y = some .gt ∧ m = x) ∨ (double.order x y = some .eq ∧ m = if (double.read x).neg then y else x)) :
    (Builtin.max_ ts ty #[.float .f64 x, .float .f64 y]).run Try.prog W = .ok (.float .f64 m) W := by
  have hf := fmt64
  rcases h with ⟨h, rfl⟩ | ⟨h, rfl⟩ | ⟨h, rfl⟩
  · simp [Builtin.max_, Builtin.max2, hf, h]
  · simp [Builtin.max_, Builtin.max2, hf, h]
  · simp [Builtin.max_, Builtin.max2, hf, h, FloatKind.decode]
theorem run_min_of (x y m : Nat) (ts : Array TypeId) (ty : TypeId) (W : World) (h : (double.order x y = some .lt ∧ m = x) ∨ (double.order x y = some .gt ∧ m = y) ∨ (double.order x y = some .eq ∧ m = if (double.read x).neg then x else y)) :
    (Builtin.min_ ts ty #[.float .f64 x, .float .f64 y]).run Try.prog W = .ok (.float .f64 m) W := by
  have hf := fmt64
  rcases h with ⟨h, rfl⟩ | ⟨h, rfl⟩ | ⟨h, rfl⟩
  · simp [Builtin.min_, Builtin.min2, hf, h]
  · simp [Builtin.min_, Builtin.min2, hf, h]
  · simp [Builtin.min_, Builtin.min2, hf, h, FloatKind.decode]

theorem run_max_pos (x y : Nat) (hx : x ≤ 9218868437227405312) (hy : y ≤ 9218868437227405312) (ts : Array TypeId) (ty : TypeId) (W : World) : (Builtin.max_ ts ty #[.float .f64 x, .float .f64 y]).run Try.prog W = .ok (.float .f64 (max x y)) W := by
  apply run_max_of
  rw [order_pos x y hx hy]
  rcases Nat.lt_trichotomy x y with h | h | h
  · exact .inl ⟨by rw [cmpN_lt h], by omega⟩
  · exact .inr (.inr ⟨by rw [cmpN_eq h], by split <;> omega⟩)
  · exact .inr (.inl ⟨by rw [cmpN_gt h], by omega⟩)
theorem run_min_pos (x y : Nat) (hx : x ≤ 9218868437227405312) (hy : y ≤ 9218868437227405312) (ts : Array TypeId) (ty : TypeId) (W : World) : (Builtin.min_ ts ty #[.float .f64 x, .float .f64 y]).run Try.prog W = .ok (.float .f64 (min x y)) W := by
  apply run_min_of
  rw [order_pos x y hx hy]
  rcases Nat.lt_trichotomy x y with h | h | h
  · exact .inl ⟨by rw [cmpN_lt h], by omega⟩
  · exact .inr (.inr ⟨by rw [cmpN_eq h], by split <;> omega⟩)
  · exact .inr (.inl ⟨by rw [cmpN_gt h], by omega⟩)

/-- A word with its sign set, against nought. -/
theorem order_signed (r : Nat) (h2 : r ≤ 9218868437227405312) : (1 ≤ r → double.order (9223372036854775808 + r) 0 = some .lt ∧ double.order 0 (9223372036854775808 + r) = some .gt) ∧ (r = 0 → double.order (9223372036854775808 + r) 0 = some .eq) := by
  have e0 : double.read 0 = .number false (mg 0) (pl 0) := read_at false 0 (by omega)
  by_cases hI : r = 9218868437227405312
  · have e := read_inf true
    rw [word_true, ← hI] at e
    refine ⟨fun _ => ⟨?_, ?_⟩, fun h => by omega⟩
    · unfold Ieee.Format.order; rw [e, e0]; rfl
    · unfold Ieee.Format.order; rw [e, e0]; rfl
  · have e := read_at true r (by omega)
    rw [word_true] at e
    refine ⟨fun h1 => ⟨order_neg r h1 (by omega), ?_⟩, fun h => ?_⟩
    · unfold Ieee.Format.order
      rw [e, e0]
      show some (compare (Ieee.signed false (mg 0) (pl 0 - min (pl 0) (pl r)).toNat) (Ieee.signed true (mg r) (pl r - min (pl 0) (pl r)).toNat)) = _
      rw [signed_eq, signed_eq, (mg_zero 0).2 rfl, Nat.zero_mul]
      have hm : 0 < mg r := Nat.pos_of_ne_zero (fun h => by have := (mg_zero r).1 h; omega)
      have hp := Nat.mul_pos hm (Nat.two_pow_pos (pl r - min (pl 0) (pl r)).toNat)
      congr 1
      apply cmpI_gt
      simp only [Bool.false_eq_true, if_false, if_true]
      omega
    · subst h
      unfold Ieee.Format.order
      rw [e, e0]
      show some (compare (Ieee.signed true (mg 0) _) (Ieee.signed false (mg 0) _)) = _
      rw [signed_eq, signed_eq, (mg_zero 0).2 rfl, Nat.zero_mul]
      rfl

/-- 'max(guess, 0)': the guess where its sign is not set, else nought. -/
def gm (g : Nat) : Nat := if g ≤ 9218868437227405312 then g else 0
theorem run_max_guess (g : Nat) (hg : g ≤ 9218868437227405312 ∨ (9223372036854775808 ≤ g ∧ g ≤ 9223372036854775808 + 9218868437227405312)) (ts : Array TypeId) (ty : TypeId) (W : World) : (Builtin.max_ ts ty #[.float .f64 g, .float .f64 0]).run Try.prog W = .ok (.float .f64 (gm g)) W := by
  rcases hg with hg | ⟨h1, h2⟩
  · have := run_max_pos g 0 hg (by omega) ts ty W
    rw [this]; unfold gm; rw [if_pos hg, Nat.max_eq_left (by omega)]
  · obtain ⟨r, rfl⟩ : ∃ r, g = 9223372036854775808 + r := ⟨g - 9223372036854775808, by omega⟩
    have hgm : gm (9223372036854775808 + r) = 0 := by unfold gm; rw [if_neg (by omega)]
    obtain ⟨o1, o2⟩ := order_signed r (by omega)
    apply run_max_of
    rw [hgm]
    by_cases hr : r = 0
    · right; right
      refine ⟨o2 hr, ?_⟩
      have e := read_at true r (by omega)
      rw [word_true] at e
      rw [e]
      rfl
    · exact .inl ⟨(o1 (by omega)).1, rfl⟩
theorem run_max_dn (lo step : Nat) (hlo : lo < 9218868437227405312) (hs : step ≤ 9218868437227405312) (ts : Array TypeId) (ty : TypeId) (W : World) : (Builtin.max_ ts ty #[.float .f64 0, .float .f64 (subW lo step)]).run Try.prog W = .ok (.float .f64 (dn lo step)) W := by
  obtain ⟨_, _, _, h⟩ := dn_le lo step hlo hs
  rcases h with h | ⟨h1, h2⟩
  · have := run_max_pos 0 (subW lo step) (by omega) h ts ty W
    rw [this]; unfold dn; rw [if_pos (by omega), Nat.max_eq_right (by omega)]
  · obtain ⟨r, hr⟩ : ∃ r, subW lo step = 9223372036854775808 + r := ⟨subW lo step - 9223372036854775808, by omega⟩
    obtain ⟨o1, _⟩ := order_signed r (by omega)
    apply run_max_of
    right; left
    refine ⟨by rw [hr]; exact (o1 (by omega)).2, ?_⟩
    unfold dn; rw [if_neg (by omega)]

/-! ### Finite words; NaNs -/

def FinW (v : Nat) : Prop := ∃ s x, v = double.word s x ∧ x < 9218868437227405312
theorem fin_pos (x : Nat) (h : x < 9218868437227405312) : FinW x := ⟨false, x, rfl, h⟩
theorem fin_neg (x : Nat) (h : x < 9218868437227405312) : FinW (9223372036854775808 + x) := ⟨true, x, (word_true x).symm, h⟩
theorem mul_fin (x y : Nat) (hx : FinW x) (hy : FinW y) : double.mul x y = some (mulW x y) := by
  obtain ⟨s, a, rfl, ha⟩ := hx
  obtain ⟨t, b, rfl, hb⟩ := hy
  have e : double.mul (double.word s a) (double.word t b) = some (double.write (.number (s ^^ t) (mg a * mg b) (pl a + pl b))) := by
    unfold Ieee.Format.mul
    rw [read_at s a ha, read_at t b hb, product_num, Option.map_some]
  unfold mulW; rw [e]; rfl
theorem sum_num (s t : Bool) (m n : Nat) (i j : Int) : ∃ d, Datum.sum (.number s m i) (.number t n j) = some d := ⟨_, rfl⟩
theorem sub_fin (x y : Nat) (hx : FinW x) (hy : FinW y) : double.sub x y = some (subW x y) := by
  obtain ⟨s, a, rfl, ha⟩ := hx
  obtain ⟨t, b, rfl, hb⟩ := hy
  obtain ⟨d, hd⟩ := sum_num s (!t) (mg a) (mg b) (pl a) (pl b)
  have e : double.sub (double.word s a) (double.word t b) = some (double.write d) := by
    unfold Ieee.Format.sub
    rw [read_at s a ha, read_at t b hb]
    show (Datum.sum (.number s (mg a) (pl a)) (.number (!t) (mg b) (pl b))).map double.write = _
    rw [hd]; rfl
  unfold subW; rw [e]; rfl
theorem half_fin (v : Nat) (h : FinW v) : double.div v 4611686018427387904 = some (halfW v) ∧ FinW (halfW v) := by
  obtain ⟨s, x, rfl, hx⟩ := h
  obtain ⟨r, hr, hle, _⟩ := half_near x hx
  have e := hr s
  have : halfW (double.word s x) = double.word s r := by unfold halfW divW; rw [e]; rfl
  rw [this]
  exact ⟨e, s, r, rfl, by omega⟩

/-- What a quotient is written as is no NaN. -/
def NumW (v : Nat) : Prop := ∃ s x, v = double.word s x ∧ x ≤ 9218868437227405312
theorem div_num (x y q : Nat) (h : double.div x y = some q) : NumW q := by
  unfold Ieee.Format.div at h
  cases hd : (double.read x).quotient (double.fractionBits + 2) (double.read y) with
  | none => rw [hd] at h; simp at h
  | some d =>
    rw [hd] at h
    simp only [Option.map_some, Option.some.injEq] at h
    subst h
    cases d with
    | number s m p => exact ⟨s, _, write_rw s m p, rw_le m p⟩
    | infinity s => exact ⟨s, 9218868437227405312, by show double.word s double.infRung = _; rw [dbl_ir], Nat.le_refl _⟩
    | nan s t =>
      exfalso
      generalize double.read x = a at hd
      generalize double.read y = b at hd
      cases a <;> cases b <;> simp only [Datum.quotient] at hd
      all_goals first
        | (cases hd; done)
        | (split at hd <;> first | (cases hd; done) | (split at hd <;> cases hd))
theorem sub_num (x q : Nat) (hx : x < 9218868437227405312) (hq : NumW q) : double.sub x q = some (subW x q) := by
  obtain ⟨s, b, rfl, hb⟩ := hq
  by_cases h : b = 9218868437227405312
  · subst h
    have e : double.sub x (double.word s 9218868437227405312) = some (double.write (.infinity (!s))) := by
      unfold Ieee.Format.sub
      rw [show double.read x = _ from read_at false x hx, read_inf s]
      rfl
    unfold subW; rw [e]; rfl
  · exact sub_fin x _ (fin_pos x hx) ⟨s, b, rfl, by omega⟩

def IsNaN (v : Nat) : Prop := ∃ s t, double.read v = .nan s t
theorem nan_cut (x y t : Nat) : IsNaN (Question.cut (.nanBits .f64 x y) t) := by
  show IsNaN ((t % 2) * 2 ^ 63 + 0x7ff0000000000000 + 1 + (t / 2) % (2 ^ 52 - 1))
  have e63 : (2 : Nat) ^ 63 = 9223372036854775808 := by decide
  have e52' : (2 : Nat) ^ 52 - 1 = 4503599627370495 := by decide
  rw [e63, e52']
  have h1 : t % 2 < 2 := Nat.mod_lt _ (by omega)
  have h2 : (t / 2) % 4503599627370495 < 4503599627370495 := Nat.mod_lt _ (by omega)
  generalize t % 2 = s at *
  generalize (t / 2) % 4503599627370495 = u at *
  have e : (s * 9223372036854775808 + 0x7ff0000000000000 + 1 + u) % 9223372036854775808 = 9218868437227405312 + 1 + u := by omega
  refine ⟨((s * 9223372036854775808 + 0x7ff0000000000000 + 1 + u) / 9223372036854775808 % 2 == 1), 9218868437227405312 + 1 + u - 9218868437227405312, ?_⟩
  unfold Ieee.Format.read
  rw [dbl_sw, dbl_b, dbl_ir, dbl_lp]
  simp only [e]
  rw [if_neg (by omega), if_neg (by omega), if_neg (by omega)]
theorem run_div_nan (x y : Nat) (h : double.div x y = none) (W : World) : ∃ v, IsNaN v ∧ (binOp .quo 23 (.float .f64 x) (.float .f64 y)).run Try.prog W = .ok (.float .f64 v) W.drew := by
  refine ⟨_, nan_cut x y (W.tape W.drawn (.nanBits .f64 x y)), ?_⟩
  have hf := fmt64
  simp [binOp, Op.floatArith, hf, h, Question.forced]
theorem run_sub_nan (x y : Nat) (h : double.sub x y = none) (W : World) : ∃ v, IsNaN v ∧ (binOp .sub 23 (.float .f64 x) (.float .f64 y)).run Try.prog W = .ok (.float .f64 v) W.drew := by
  refine ⟨_, nan_cut x y (W.tape W.drawn (.nanBits .f64 x y)), ?_⟩
  have hf := fmt64
  simp [binOp, Op.floatArith, hf, h, Question.forced]
theorem sub_of_nan (x y : Nat) (hy : IsNaN y) : double.sub x y = none := by
  obtain ⟨s, t, h⟩ := hy
  unfold Ieee.Format.sub
  rw [h]
  cases double.read x <;> rfl
theorem order_nan (x y : Nat) (hx : IsNaN x) : double.order x y = none := by
  obtain ⟨s, t, h⟩ := hx
  unfold Ieee.Format.order
  rw [h]
  cases double.read y <;> rfl

/-! ### math.Inf, math.IsInf, zzInf -/

theorem mul_maxf : double.mul 9218868437227405311 4611686018427387904 = some 9218868437227405312 := by
  obtain ⟨r, hr, hn⟩ := mul_near 9218868437227405311 4611686018427387904 (by omega) (by omega)
  obtain ⟨h1, h2, h3⟩ := dbl_step 9218868437227405311 (by omega)
  have h4 := h3 (by omega)
  have h5 : mulW 9218868437227405311 4611686018427387904 = 9218868437227405312 := by omega
  rw [h1, h5]

theorem zzinf_any (w : World) : Calls Try.prog 7 #[] w fun e w' => e = .returned (.float .f64 9218868437227405312) ∧ w = w' := by
  have hm := run_mul mul_maxf
  go_enter Try.func7, Try.ntmps7
  go_wp2
  go_ret
  exact ⟨rfl, rfl⟩

theorem frombits_inf (w : World) : (callFunc 19 #[.int .u64 9218868437227405312]).run Try.prog w = .ok (.value (.float .f64 9218868437227405312)) w := by kernel_rfl
theorem inf_any (w : World) : Calls Try.prog 16 #[.int .i64 1] w fun e w' => e = .returned (.float .f64 9218868437227405312) ∧ w = w' := by
  have hfb := frombits_inf
  go_enter Try.func16, Try.ntmps16
  go_wp2
  go_ret
  exact ⟨rfl, rfl⟩

theorem isinf_false (a : Nat) (ha : a < 9218868437227405312) (w : World) : Calls Try.prog 20 #[.float .f64 a, .int .i64 1] w fun e w' => e = .returned (.bool false) ∧ w = w' := by
  have hf := fmt64
  have ho : (double.order a 9218868437227405311 == some .gt) = false := by
    rw [order_pos a 9218868437227405311 (by omega) (by omega)]
    rcases Nat.lt_trichotomy a 9218868437227405311 with h | h | h
    · rw [cmpN_lt h]; rfl
    · rw [cmpN_eq h]; rfl
    · omega
  go_enter Try.func20, Try.ntmps20
  go_wp2
  go_ret
  exact ⟨rfl, rfl⟩

end Go.Proofs.Qxb6615185a
