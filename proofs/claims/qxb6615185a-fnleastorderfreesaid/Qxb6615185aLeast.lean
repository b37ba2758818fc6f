/-
  DERIVED. Seat b6615185a: 'leastAt' as a plain function over words; that it ends, and what it answers. Nothing of Go in it.
-/
import Derived.Test.Qxb6615185aFloat5
namespace Go.Proofs.Qxb6615185a
set_option linter.unusedVariables false
open Ieee

def ge0 (w : Nat) : Bool := double.order w 0 == some .gt || double.order w 0 == some .eq
def lt0 (w : Nat) : Bool := double.order w 0 == some .lt

theorem ge0_pos (w : Nat) (h : w ≤ 9218868437227405312) : ge0 w = true ∧ lt0 w = false := by
  unfold ge0 lt0
  rw [order_pos w 0 h (by omega)]
  by_cases h0 : w = 0
  · rw [cmpN_eq h0]; exact ⟨rfl, rfl⟩
  · rw [cmpN_gt (by omega)]; exact ⟨rfl, rfl⟩
theorem order_neg (r : Nat) (h1 : 1 ≤ r) (h2 : r < 9218868437227405312) : double.order (9223372036854775808 + r) 0 = some .lt := by
  have e := read_at true r h2
  rw [word_true] at e
  unfold Format.order
  rw [e, show double.read 0 = _ from read_at false 0 (by omega)]
  show some (compare (signed true (mg r) (pl r - min (pl r) (pl 0)).toNat) (signed false (mg 0) (pl 0 - min (pl r) (pl 0)).toNat)) = _
  rw [signed_eq, signed_eq, (mg_zero 0).2 rfl, Nat.zero_mul]
  have hm : 0 < mg r := Nat.pos_of_ne_zero (fun h => by have := (mg_zero r).1 h; omega)
  have hp := Nat.mul_pos hm (Nat.two_pow_pos (pl r - min (pl r) (pl 0)).toNat)
  congr 1
  apply cmpI_lt
  simp only [Bool.false_eq_true, if_false, if_true]
  omega
theorem ge0_neg (r : Nat) (h1 : 1 ≤ r) (h2 : r < 9218868437227405312) : ge0 (9223372036854775808 + r) = false ∧ lt0 (9223372036854775808 + r) = true := by
  unfold ge0 lt0
  rw [order_neg r h1 h2]; exact ⟨rfl, rfl⟩

/-- 'max(0, lo - step)'. -/
def dn (lo step : Nat) : Nat := if subW lo step < 9223372036854775808 then subW lo step else 0
theorem sub_inf (x : Nat) (hx : x < 9218868437227405312) : double.sub x 9218868437227405312 = some (9223372036854775808 + 9218868437227405312) := by
  unfold Format.sub
  rw [show double.read x = _ from read_at false x hx, show double.read 9218868437227405312 = _ from read_inf false]
  show some (double.write (.infinity true)) = _
  show some (double.word true double.infRung) = _
  rw [dbl_ir, word_true]
theorem dn_le (lo step : Nat) (hlo : lo < 9218868437227405312) (hs : step ≤ 9218868437227405312) : dn lo step ≤ lo ∧ (step = 9218868437227405312 → dn lo step = 0) ∧ double.sub lo step = some (subW lo step) ∧ (subW lo step ≤ 9218868437227405312 ∨ 9223372036854775808 < subW lo step ∧ subW lo step ≤ 9223372036854775808 + 9218868437227405312) := by
  by_cases hi : step = 9218868437227405312
  · have h := sub_inf lo hlo
    rw [← hi] at h
    have e : subW lo step = 9223372036854775808 + step := by unfold subW; rw [h]; rfl
    unfold dn
    rw [e, if_neg (by omega)]
    exact ⟨by omega, fun _ => rfl, h, .inr (by omega)⟩
  · by_cases hc : step ≤ lo
    · obtain ⟨r, hr, hI, lb, ub⟩ := sub_pos lo step hlo (by omega) hc
      have e : subW lo step = r := by unfold subW; rw [hr]; rfl
      have := ub lo (by omega)
      unfold dn
      rw [e, if_pos (by omega)]
      exact ⟨this, fun h => absurd h hi, hr, .inl (by omega)⟩
    · obtain ⟨r, hr, h1, h2⟩ := sub_neg lo step hlo (by omega) (by omega)
      have e : subW lo step = 9223372036854775808 + r := by unfold subW; rw [hr]; rfl
      unfold dn
      rw [e, if_neg (by omega)]
      exact ⟨by omega, fun h => absurd h hi, hr, .inr (by omega)⟩

/-- 'up + step' where the step may be infinite. -/
theorem add_inf (x : Nat) (hx : x < 9218868437227405312) : double.add x 9218868437227405312 = some 9218868437227405312 := by
  unfold Format.add
  rw [show double.read x = _ from read_at false x hx, show double.read 9218868437227405312 = _ from read_inf false]
  show some (double.write (.infinity false)) = _
  show some (double.word false double.infRung) = _
  rw [dbl_ir, word_false]
theorem add_any (x y : Nat) (hx : x < 9218868437227405312) (hy : y ≤ 9218868437227405312) : double.add x y = some (addW x y) ∧ addW x y ≤ 9218868437227405312 ∧ (y = 9218868437227405312 → addW x y = 9218868437227405312) := by
  by_cases h : y = 9218868437227405312
  · subst h
    have h := add_inf x hx
    have e : addW x 9218868437227405312 = 9218868437227405312 := by unfold addW; rw [h]; rfl
    rw [e]; exact ⟨h, by omega, fun _ => rfl⟩
  · obtain ⟨r, hr, hI, _⟩ := add_pos x y hx (by omega)
    have e : addW x y = r := by unfold addW; rw [hr]; rfl
    rw [e]; exact ⟨hr, hI, fun h2 => absurd h2 h⟩
theorem mul_inf : double.mul 9218868437227405312 4611686018427387904 = some 9218868437227405312 := by
  unfold Format.mul
  rw [show double.read 9218868437227405312 = _ from read_inf false, show double.read 4611686018427387904 = _ from read_at false 4611686018427387904 (by omega)]
  show ((if mg 4611686018427387904 = 0 then none else some (Datum.infinity (false ^^ false))) : Option Datum).map double.write = _
  rw [if_neg (fun h => by have := (mg_zero 4611686018427387904).1 h; omega)]
  show some (double.word (false ^^ false) double.infRung) = _
  rw [dbl_ir, Bool.xor_false, word_false]
theorem step_any' (x : Nat) (hx : x ≤ 9218868437227405312) : double.mul x 4611686018427387904 = some (mulW x 4611686018427387904) ∧ mulW x 4611686018427387904 ≤ 9218868437227405312 ∧ (0 < x → x < 9218868437227405312 → x < mulW x 4611686018427387904) ∧ (x = 9218868437227405312 → mulW x 4611686018427387904 = 9218868437227405312) ∧ (0 < x → 0 < mulW x 4611686018427387904) := by
  by_cases h : x = 9218868437227405312
  · subst h
    have e : mulW 9218868437227405312 4611686018427387904 = 9218868437227405312 := by unfold mulW; rw [mul_inf]; rfl
    rw [e]; exact ⟨mul_inf, by omega, fun _ h => by omega, fun _ => rfl, fun h => h⟩
  · obtain ⟨h1, h2, h3⟩ := dbl_step x (by omega)
    exact ⟨h1, h2, fun h _ => h3 h, fun h2 => absurd h2 h, fun h => by have := h3 h; omega⟩

/-! ### The three loops -/

def downN (F : Nat → Nat) : Nat → Nat → Nat → Nat → Nat → Nat → Option (Bool × Nat × Nat × Nat × Nat × Nat)
  | 0, _, _, _, _, _ => none
  | f + 1, lo, up, flo, fup, step =>
    if ge0 flo then (if lo = 0 then some (true, 0, 0, 0, 0, 0) else downN F f (dn lo step) lo (F (dn lo step)) flo (mulW step 4611686018427387904))
    else some (false, lo, up, flo, fup, step)

def upN (F : Nat → Nat) (limit : Nat) : Nat → Nat → Nat → Nat → Nat → Nat → Option (Nat × Nat × Nat × Nat)
  | 0, _, _, _, _, _ => none
  | f + 1, lo, up, flo, fup, step =>
    if lt0 fup then upN F limit f up (min limit (addW up step)) fup (F (min limit (addW up step))) (mulW step 4611686018427387904)
    else some (lo, up, flo, fup)

/-- The point of the regula falsi; none: not a number. -/
def regula (lo up flo fup : Nat) : Option Nat := (double.div (mulW fup (subW up lo)) (subW fup flo)).map (subW up)
def insideB (a lo up : Nat) : Bool := (double.order a lo == some .gt) && (double.order a up == some .lt)
def midW (lo up flo fup : Nat) : Nat :=
  match regula lo up flo fup with
  | some a => if insideB a lo up then a else bis lo up
  | none => bis lo up
def halfW (x : Nat) : Nat := divW x 4611686018427387904

def loopN (F : Nat → Nat) (scale : Nat) : Nat → Nat → Nat → Nat → Nat → Int → Option Nat
  | 0, _, _, _, _, _ => none
  | f + 1, lo, up, flo, fup, mv =>
    if contB scale lo up then
      (if ge0 (F (midW lo up flo fup)) then loopN F scale f lo (midW lo up flo fup) (if 0 < mv then halfW flo else flo) (F (midW lo up flo fup)) 1
       else loopN F scale f (midW lo up flo fup) up (F (midW lo up flo fup)) (if mv < 0 then halfW fup else fup) (-1))
    else some up

/-! ### That they end -/

/-- What the search asks of the function and the sign that it reads. -/
structure Goes (F : Nat → Nat) (P : Nat → Bool) (limit : Nat) : Prop where
  ge : ∀ a, a ≤ limit → ge0 (F a) = P a
  lt : ∀ a, a ≤ limit → lt0 (F a) = !P a
  mono : ∀ a b, a ≤ b → b ≤ limit → P a = true → P b = true

theorem down_ends (F : Nat → Nat) (P : Nat → Bool) (limit : Nat) (g : Goes F P limit) (hlim : limit < 9218868437227405312) :
    ∀ n lo up step, n + step ≥ 9218868437227405312 + 2 → lo ≤ limit → up ≤ limit → step ≤ 9218868437227405312 → 0 < step → (lo = up ∨ P up = true) →
      (downN F n lo up (F lo) (F up) step = some (true, 0, 0, 0, 0, 0) ∧ P 0 = true) ∨
      ∃ lo' up' step', downN F n lo up (F lo) (F up) step = some (false, lo', up', F lo', F up', step') ∧ P lo' = false ∧ lo' ≤ limit ∧ up' ≤ limit ∧ step' ≤ 9218868437227405312 ∧ 0 < step' ∧ (lo' = up' ∨ P up' = true) := by
  intro n
  induction n with
  | zero => intro lo up step h1 h2 h3 h4 h5 h6; omega
  | succ n ih =>
    intro lo up step h1 h2 h3 h4 h5 h6
    rw [downN, g.ge lo h2]
    by_cases hp : P lo = true
    · rw [if_pos hp]
      by_cases h0 : lo = 0
      · rw [if_pos h0]
        left
        rw [h0] at hp
        exact ⟨rfl, hp⟩
      · rw [if_neg h0]
        obtain ⟨d1, d2, _, _⟩ := dn_le lo step (by omega) h4
        obtain ⟨_, m1, m2, m3, m4⟩ := step_any' step h4
        by_cases hi : step = 9218868437227405312
        · -- the step is infinite: the next point is nought
          have hz := d2 hi
          rw [hz, m3 hi]
          cases n with
          | zero => omega
          | succ n =>
            rw [downN, g.ge 0 (by omega)]
            by_cases hp0 : P 0 = true
            · rw [if_pos hp0, if_pos rfl]; exact .inl ⟨rfl, hp0⟩
            · rw [if_neg hp0]
              right
              exact ⟨0, lo, 9218868437227405312, rfl, by simpa using hp0, by omega, h2, by omega, by omega, .inr hp⟩
        · have := m2 h5 (by omega)
          exact ih (dn lo step) lo (mulW step 4611686018427387904) (by omega) (by omega) h2 m1 (m4 h5) (.inr hp)
    · rw [if_neg hp]
      right
      exact ⟨lo, up, step, rfl, by simpa using hp, h2, h3, h4, h5, h6⟩

theorem up_ends (F : Nat → Nat) (P : Nat → Bool) (limit : Nat) (g : Goes F P limit) (hlim : limit < 9218868437227405312) (hPl : P limit = true) :
    ∀ n lo up step, n + step ≥ 9218868437227405312 + 2 → P lo = false → lo ≤ limit → up ≤ limit → step ≤ 9218868437227405312 → 0 < step → (lo = up ∨ P up = true) →
      ∃ lo' up', upN F limit n lo up (F lo) (F up) step = some (lo', up', F lo', F up') ∧ P lo' = false ∧ P up' = true ∧ lo' ≤ limit ∧ up' ≤ limit := by
  intro n
  induction n with
  | zero => intro lo up step h1 h2 h3 h4 h5 h6 h7; omega
  | succ n ih =>
    intro lo up step h1 h2 h3 h4 h5 h6 h7
    rw [upN, g.lt up h4]
    by_cases hp : P up = true
    · rw [if_neg (by simp [hp])]
      exact ⟨lo, up, rfl, h2, hp, h3, h4⟩
    · have hp' : P up = false := by simpa using hp
      rw [if_pos (by simp [hp'])]
      obtain ⟨_, a1, a2⟩ := add_any up step (by omega) h5
      obtain ⟨_, m1, m2, m3, m4⟩ := step_any' step h5
      by_cases hi : step = 9218868437227405312
      · rw [a2 hi, m3 hi, Nat.min_eq_left (by omega)]
        cases n with
        | zero => omega
        | succ n =>
          rw [upN, g.lt limit (Nat.le_refl _), if_neg (by simp [hPl])]
          exact ⟨up, limit, rfl, hp', hPl, h4, Nat.le_refl _⟩
      · have := m2 h6 (by omega)
        by_cases hnew : P (min limit (addW up step)) = true
        · exact ih up (min limit (addW up step)) (mulW step 4611686018427387904) (by omega) hp' h4 (by omega) m1 (m4 h6) (.inr hnew)
        · -- still short: the bracket's ends are equal for the next round's law only in sign; go on from there
          have hnew' : P (min limit (addW up step)) = false := by simpa using hnew
          cases n with
          | zero => omega
          | succ n =>
            rw [upN, g.lt _ (by omega), if_pos (by simp [hnew'])]
            have r := ih (min limit (addW up step)) (min limit (addW up step)) (mulW step 4611686018427387904) (by omega) hnew' (by omega) (by omega) m1 (m4 h6) (.inl rfl)
            rw [upN, g.lt _ (by omega), if_pos (by simp [hnew'])] at r
            exact r

theorem inside_of (a lo up : Nat) (ha : a < 2 * 9223372036854775808) (hlo : lo < 9218868437227405312) (hup : up < 9218868437227405312) (h : insideB a lo up = true) : lo < a ∧ a < up := by
  unfold insideB at h
  rw [Bool.and_eq_true] at h
  obtain ⟨h1, h2⟩ := h
  by_cases hs : a < 9223372036854775808
  · by_cases hI : a ≤ 9218868437227405312
    · rw [order_pos a lo hI (by omega)] at h1
      rw [order_pos a up hI (by omega)] at h2
      constructor
      · rcases Nat.lt_trichotomy a lo with c | c | c
        · rw [cmpN_lt c] at h1; simp at h1
        · rw [cmpN_eq c] at h1; simp at h1
        · exact c
      · rcases Nat.lt_trichotomy a up with c | c | c
        · exact c
        · rw [cmpN_eq c] at h2; simp at h2
        · rw [cmpN_gt c] at h2; simp at h2
    · exfalso
      have : double.read a = .nan false (a - 9218868437227405312) := by
        unfold Format.read
        rw [dbl_sw, dbl_b, dbl_ir, dbl_lp]
        have e1 : (a / 9223372036854775808 % 2 == 1) = false := by simp; omega
        have e2 : a % 9223372036854775808 = a := by omega
        simp only [e1, e2]
        rw [if_neg (by omega), if_neg (by omega), if_neg (by omega)]
      unfold Format.order at h1
      rw [this] at h1
      simp [Datum.order] at h1
  · exfalso
    -- the sign is set: not above a word that is no less than nought
    have hlt : ∃ o, double.order a lo = o ∧ o ≠ some .gt := by
      refine ⟨_, rfl, ?_⟩
      obtain ⟨r, hr⟩ : ∃ r, a = 9223372036854775808 + r := ⟨a - 9223372036854775808, by omega⟩
      have hrs : r < 9223372036854775808 := by omega
      unfold Format.order
      rw [show double.read lo = _ from read_at false lo hlo]
      by_cases h3 : r < 9218868437227405312
      · have e := read_at true r h3
        rw [word_true, ← hr] at e
        rw [e]
        show some (compare (signed true (mg r) (pl r - min (pl r) (pl lo)).toNat) (signed false (mg lo) (pl lo - min (pl r) (pl lo)).toNat)) ≠ _
        rw [signed_eq, signed_eq]
        simp only [Bool.false_eq_true, if_false, if_true]
        generalize mg r * _ = A
        generalize mg lo * _ = B
        by_cases hz : A = 0 ∧ B = 0
        · rw [cmpI_eq (by omega)]; simp
        · rw [cmpI_lt (by omega)]; simp
      · by_cases h4 : r = 9218868437227405312
        · have e := read_inf true
          rw [word_true, ← h4, ← hr] at e
          rw [e]
          show some (if true then Ordering.lt else Ordering.gt) ≠ _
          simp
        · have e : double.read a = .nan true (r - 9218868437227405312) := by
            unfold Format.read
            rw [dbl_sw, dbl_b, dbl_ir, dbl_lp]
            have e1 : (a / 9223372036854775808 % 2 == 1) = true := by simp; omega
            have e2 : a % 9223372036854775808 = r := by omega
            simp only [e1, e2]
            rw [if_neg (by omega), if_neg (by omega), if_neg (by omega)]
          rw [e]
          simp [Datum.order]
    obtain ⟨o, ho, hne⟩ := hlt
    rw [ho] at h1
    exact hne (by simpa using h1)

theorem subW_lt (x y : Nat) : subW x y < 2 * 9223372036854775808 := by
  unfold subW
  cases h : double.sub x y with
  | none => simp
  | some r =>
    show r < 2 * 9223372036854775808
    unfold Format.sub at h
    cases hd : (double.read x).sum (double.read y).opposite with
    | none => rw [hd] at h; simp at h
    | some d =>
      rw [hd] at h
      simp only [Option.map_some, Option.some.injEq] at h
      subst h
      cases d with
      | number s m p =>
        rw [write_rw]
        have := rw_le m p
        cases s
        · rw [word_false]; omega
        · rw [word_true]; omega
      | infinity s =>
        show double.word s double.infRung < _
        rw [dbl_ir]
        cases s
        · rw [word_false]; omega
        · rw [word_true]; omega
      | nan s t =>
        show double.word s (double.infRung + t % double.binade) < _
        rw [dbl_ir, dbl_b]
        have : t % 4503599627370496 < 4503599627370496 := Nat.mod_lt _ (by omega)
        cases s
        · rw [word_false]; omega
        · rw [word_true]; omega

theorem mid_inside (scale lo up flo fup : Nat) (hup : up < 9214364837600034816) (hlo : lo ≤ up) (hs0 : 4503599627370496 ≤ scale) (hs : scale < 9218868437227405312) (h : contB scale lo up = true) : lo < midW lo up flo fup ∧ midW lo up flo fup < up := by
  have h3 := cont_wide scale lo up hup hlo hs0 hs h
  obtain ⟨b1, b2, _⟩ := bis_inside lo up hup h3
  unfold midW
  cases hr : regula lo up flo fup with
  | none => exact ⟨b1, b2⟩
  | some a =>
    show lo < (if insideB a lo up then a else bis lo up) ∧ (if insideB a lo up then a else bis lo up) < up
    by_cases hi : insideB a lo up = true
    · rw [if_pos hi]
      have ha : a < 2 * 9223372036854775808 := by
        unfold regula at hr
        cases hd : double.div (mulW fup (subW up lo)) (subW fup flo) with
        | none => rw [hd] at hr; simp at hr
        | some q =>
          rw [hd] at hr
          simp only [Option.map_some, Option.some.injEq] at hr
          rw [← hr]; exact subW_lt up q
      exact inside_of a lo up ha (by omega) (by omega) hi
    · rw [if_neg hi]; exact ⟨b1, b2⟩

theorem loop_ends (F : Nat → Nat) (P : Nat → Bool) (limit scale : Nat) (g : Goes F P limit) (hlim : limit < 9214364837600034816) (hs0 : 4503599627370496 ≤ scale) (hs : scale < 9218868437227405312) :
    ∀ n lo up flo fup mv, up - lo < n → lo ≤ up → up ≤ limit → P up = true → ∃ r, loopN F scale n lo up flo fup mv = some r ∧ r ≤ limit ∧ P r = true := by
  intro n
  induction n with
  | zero => intro lo up flo fup mv h1 h2 h3 h4; omega
  | succ n ih =>
    intro lo up flo fup mv h1 h2 h3 h4
    rw [loopN]
    by_cases hc : contB scale lo up = true
    · rw [if_pos hc]
      obtain ⟨m1, m2⟩ := mid_inside scale lo up flo fup (by omega) h2 hs0 hs hc
      rw [g.ge _ (by omega)]
      by_cases hp : P (midW lo up flo fup) = true
      · rw [if_pos hp]
        exact ih lo (midW lo up flo fup) _ _ _ (by omega) (by omega) (by omega) hp
      · rw [if_neg hp]
        exact ih (midW lo up flo fup) up _ _ _ (by omega) (by omega) h3 h4
    · rw [if_neg hc]
      exact ⟨up, rfl, h3, h4⟩

/-- 'leastAt', whole: the three loops, each with its own fuel. -/
def leastN (F : Nat → Nat) (scale limit a0 step0 n1 n2 n3 : Nat) : Option Nat :=
  match downN F n1 a0 a0 (F a0) (F a0) step0 with
  | none => none
  | some (true, _) => some 0
  | some (false, lo, up, flo, fup, step) =>
    if lt0 fup && lt0 (F limit) then some 9218868437227405312
    else match upN F limit n2 lo up flo fup step with
      | none => none
      | some (lo, up, flo, fup) => loopN F scale n3 lo up flo fup 0

theorem least_ends (F : Nat → Nat) (P : Nat → Bool) (scale limit a0 step0 : Nat) (g : Goes F P limit) (hlim : limit < 9214364837600034816) (hs0 : 4503599627370496 ≤ scale) (hs : scale < 9218868437227405312) (ha : a0 ≤ limit) (hst : step0 ≤ 9218868437227405312) (hst0 : 0 < step0) :
    ∃ n1 n2 n3 r, leastN F scale limit a0 step0 n1 n2 n3 = some r ∧ r ≤ 9218868437227405312 ∧ (P 0 = true → r = 0) ∧ (P 0 = false → P limit = false → r = 9218868437227405312) ∧ (P 0 = false → P limit = true → r ≤ limit ∧ P r = true) := by
  rcases down_ends F P limit g (by omega) (9218868437227405312 + 2) a0 a0 step0 (by omega) ha ha hst hst0 (.inl rfl) with ⟨h, hp⟩ | ⟨lo, up, step, h, h1, h2, h3, h4, h5, h6⟩
  · refine ⟨9218868437227405312 + 2, 0, 0, 0, ?_, by omega, fun _ => rfl, fun h2 => ?_, fun h2 => ?_⟩
    · unfold leastN; rw [h]
    · rw [hp] at h2; cases h2
    · rw [hp] at h2; cases h2
  · have hp0 : P 0 = false := by
      cases hc : P 0 with
      | false => rfl
      | true => have := g.mono 0 lo (by omega) h2 hc; rw [h1] at this; cases this
    by_cases hPl : P limit = true
    · obtain ⟨lo', up', e, u1, u2, u3, u4⟩ := up_ends F P limit g (by omega) hPl (9218868437227405312 + 2) lo up step (by omega) h1 h2 h3 h4 h5 h6
      have hlu : lo' ≤ up' := by
        apply Nat.le_of_not_lt
        intro hlt
        have := g.mono up' lo' (by omega) u3 u2
        rw [u1] at this; cases this
      obtain ⟨r, hr, r1, r2⟩ := loop_ends F P limit scale g hlim hs0 hs (up' - lo' + 1) lo' up' (F lo') (F up') 0 (by omega) hlu u4 u2
      refine ⟨9218868437227405312 + 2, 9218868437227405312 + 2, up' - lo' + 1, r, ?_, by omega, fun h => ?_, fun _ h => ?_, fun _ _ => ⟨r1, r2⟩⟩
      · unfold leastN
        rw [h]
        show (if lt0 (F up) && lt0 (F limit) then some 9218868437227405312 else _) = _
        rw [g.lt limit (Nat.le_refl _), hPl, Bool.not_true, Bool.and_false, if_neg (by simp), e]
        exact hr
      · rw [hp0] at h; cases h
      · rw [hPl] at h; cases h
    · have hPl' : P limit = false := by simpa using hPl
      have hpu : P up = false := by
        cases hc : P up with
        | false => rfl
        | true => have := g.mono up limit h3 (Nat.le_refl _) hc; rw [hPl'] at this; cases this
      refine ⟨9218868437227405312 + 2, 0, 0, 9218868437227405312, ?_, by omega, fun h => ?_, fun _ _ => rfl, fun _ h => ?_⟩
      · unfold leastN
        rw [h]
        show (if lt0 (F up) && lt0 (F limit) then some 9218868437227405312 else _) = _
        rw [g.lt limit (Nat.le_refl _), g.lt up h3, hPl', hpu]
        rfl
      · rw [hp0] at h; cases h
      · rw [hPl'] at h; cases h

end Go.Proofs.Qxb6615185a
