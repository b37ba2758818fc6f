/-
  DERIVED. Seat b6615185a: rounding to nearest, as two bounds on the rung that comes out. Nothing of Go in it.
-/
import Ieee.Arith
namespace Go.Proofs.Qxb6615185a
set_option linter.unusedVariables false
open Ieee

/-- The magnitude of a rung, in units of the least subnormal number (rungs without an end). -/
def V (x : Nat) : Nat := if x < 4503599627370496 then x else (4503599627370496 + x % 4503599627370496) * 2 ^ (x / 4503599627370496 - 1)

theorem V_at (e k : Nat) (h : e = 0 ∨ 4503599627370496 ≤ k) (hk : k ≤ 2 * 4503599627370496) : V (e * 4503599627370496 + k) = k * 2 ^ e := by
  unfold V
  by_cases h1 : k < 4503599627370496
  · have he : e = 0 := by omega
    subst he
    rw [if_pos (by omega)]; simp
  · rw [if_neg (by omega)]
    by_cases h2 : k = 2 * 4503599627370496
    · subst h2
      have e1 : (e * 4503599627370496 + 2 * 4503599627370496) % 4503599627370496 = 0 := by omega
      have e2 : (e * 4503599627370496 + 2 * 4503599627370496) / 4503599627370496 = e + 2 := by omega
      rw [e1, e2, Nat.add_zero, show e + 2 - 1 = e + 1 by omega, Nat.pow_succ, Nat.mul_comm (2 ^ e) 2, ← Nat.mul_assoc, Nat.mul_comm 4503599627370496 2]
    · have e1 : (e * 4503599627370496 + k) % 4503599627370496 = k - 4503599627370496 := by omega
      have e2 : (e * 4503599627370496 + k) / 4503599627370496 = e + 1 := by omega
      rw [e1, e2, show 4503599627370496 + (k - 4503599627370496) = k by omega, show e + 1 - 1 = e by omega]

/-- Each rung as a significand and a scale. -/
theorem V_parts (x : Nat) : ∃ e k, x = e * 4503599627370496 + k ∧ (e = 0 ∨ 4503599627370496 ≤ k) ∧ k < 2 * 4503599627370496 ∧ e = x / 4503599627370496 - 1 := by
  by_cases h : x < 4503599627370496
  · exact ⟨0, x, by omega, .inl rfl, by omega, by omega⟩
  · exact ⟨x / 4503599627370496 - 1, x - (x / 4503599627370496 - 1) * 4503599627370496, by omega, .inr (by omega), by omega, rfl⟩

theorem V_succ (x : Nat) : V (x + 1) = V x + 2 ^ (x / 4503599627370496 - 1) := by
  obtain ⟨e, k, hx, h1, h2, h3⟩ := V_parts x
  rw [← h3]
  have a := V_at e k h1 (by omega)
  have b := V_at e (k + 1) (by omega) (by omega)
  rw [hx, a, show e * 4503599627370496 + k + 1 = e * 4503599627370496 + (k + 1) by omega, b, Nat.add_mul, Nat.one_mul]

theorem V_lt_succ (x : Nat) : V x < V (x + 1) := by
  rw [V_succ]; have := Nat.two_pow_pos (x / 4503599627370496 - 1); omega
theorem V_mono {x y : Nat} (h : x ≤ y) : V x ≤ V y := by
  induction y with
  | zero => have : x = 0 := by omega
            subst this; exact Nat.le_refl _
  | succ y ih =>
    by_cases e : x = y + 1
    · subst e; exact Nat.le_refl _
    · exact Nat.le_trans (ih (by omega)) (Nat.le_of_lt (V_lt_succ y))
theorem V_strict {x y : Nat} (h : x < y) : V x < V y := Nat.lt_of_lt_of_le (V_lt_succ x) (V_mono h)
theorem V_le_iff {x y : Nat} : V x ≤ V y ↔ x ≤ y := ⟨fun h => by
  by_cases e : x ≤ y
  · exact e
  · have := V_strict (show y < x by omega); omega, V_mono⟩
theorem V_zero : V 0 = 0 := by unfold V; rw [if_pos (by omega)]
theorem V_inj {x y : Nat} (h : V x = V y) : x = y := by
  have a := V_le_iff.1 (Nat.le_of_eq h)
  have b := V_le_iff.1 (Nat.le_of_eq h.symm)
  omega

/-- The last place that is kept, in units (0: the least). -/
def keptAt (m : Nat) (p : Int) : Int := max (p + m.log2 - 52) (-1074)
/-- The rung of the nearest word, without an end. -/
def rnd (m : Nat) (p : Int) : Nat := (keptAt m p + 1074).toNat * 4503599627370496 + Toward.even.cut false (m <<< (p - keptAt m p).toNat) (keptAt m p - p).toNat

theorem cut_sign (s : Bool) (n d : Nat) : Toward.even.cut s n d = Toward.even.cut false n d := rfl

theorem nearest_eq (s : Bool) (m : Nat) (p : Int) (hm : m ≠ 0) : double.nearest s m p = double.word s (min (rnd m p) double.infRung) := by
  unfold Format.nearest rnd keptAt
  rw [if_neg hm]
  have h1 : (double.fractionBits : Int) = 52 := rfl
  have h2 : double.leastPlace = -1074 := by decide
  have h3 : double.binade = 4503599627370496 := by decide
  simp only [h1, h2, h3, cut_sign s]
  rw [show ∀ z : Int, z - -1074 = z + 1074 by intro z; omega]

/-- Half-even: within a half. -/
theorem cut_bounds (n d : Nat) (hd : d ≤ n.log2 + 2) : 2 * n ≤ (2 * Toward.even.cut false n d + 1) * 2 ^ d ∧ 2 * Toward.even.cut false n d * 2 ^ d ≤ 2 * n + 2 ^ d := by
  unfold Toward.cut
  simp only [Nat.min_eq_left hd, Nat.one_shiftLeft]
  have hp := Nat.two_pow_pos d
  have hdm := Nat.div_add_mod n (2 ^ d)
  have hlt := Nat.mod_lt n hp
  generalize hl : n / 2 ^ d = low at *
  generalize hr : n % 2 ^ d = rest at *
  generalize hg : 2 ^ d = g at *
  cases hb : (decide (g < 2 * rest) || (g == 2 * rest && low % 2 == 1)) with
  | true =>
    simp only [Bool.toNat_true]
    have : g ≤ 2 * rest := by
      simp only [Bool.or_eq_true, decide_eq_true_eq, Bool.and_eq_true, beq_iff_eq] at hb
      omega
    have e1 : (2 * (low + 1) + 1) * g = 2 * (g * low) + 3 * g := by
      rw [Nat.add_mul, Nat.mul_assoc, Nat.add_mul, Nat.mul_comm low g]; omega
    have e2 : 2 * (low + 1) * g = 2 * (g * low) + 2 * g := by
      rw [Nat.mul_assoc, Nat.add_mul, Nat.mul_comm low g]; omega
    rw [e1, e2]
    omega
  | false =>
    simp only [Bool.toNat_false]
    have : 2 * rest ≤ g := by
      simp only [Bool.or_eq_false_iff, decide_eq_false_iff_not, Bool.and_eq_false_imp] at hb
      omega
    have e1 : (2 * (low + 0) + 1) * g = 2 * (g * low) + g := by
      rw [Nat.add_mul, Nat.mul_assoc, Nat.add_zero, Nat.mul_comm low g]; omega
    have e2 : 2 * (low + 0) * g = 2 * (g * low) := by
      rw [Nat.mul_assoc, Nat.add_zero, Nat.mul_comm low g]
    rw [e1, e2]
    omega

theorem cut_far (n d : Nat) (hn : n ≠ 0) (hd : n.log2 + 2 < d) : Toward.even.cut false n d = 0 := by
  unfold Toward.cut
  simp only [Nat.min_eq_right (Nat.le_of_lt hd), Nat.one_shiftLeft]
  have h := @Nat.lt_log2_self n
  have e : 2 ^ (n.log2 + 2) = 2 * 2 ^ (n.log2 + 1) := by rw [Nat.pow_succ 2 (n.log2 + 1), Nat.mul_comm]
  have h1 : n / 2 ^ (n.log2 + 2) = 0 := Nat.div_eq_of_lt (by omega)
  have h2 : n % 2 ^ (n.log2 + 2) = n := Nat.mod_eq_of_lt (by omega)
  rw [h1, h2]
  have h3 : (decide (2 ^ (n.log2 + 2) < 2 * n) || (2 ^ (n.log2 + 2) == 2 * n && 0 % 2 == 1)) = false := by
    simp; omega
  simp only [h3, Bool.toNat_false]

end Go.Proofs.Qxb6615185a
