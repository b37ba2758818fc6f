/-
  DERIVED. Seat b6615185a: rounding to nearest lies within half a gap; what follows of it.
-/
import Derived.Test.Qxb6615185aFloat1
namespace Go.Proofs.Qxb6615185a
set_option linter.unusedVariables false
open Ieee

theorem cut_zero (n : Nat) : Toward.even.cut false n 0 = n := by
  unfold Toward.cut
  simp [Nat.mod_one]

/-- What the kept significand is. -/
theorem rnd_parts (m : Nat) (p : Int) (hm : m ≠ 0) : (∃ e d k : Nat, rnd m p = e * 4503599627370496 + k ∧ (e = 0 ∨ 4503599627370496 ≤ k) ∧ k ≤ 2 * 4503599627370496 ∧ p + 1074 = (e : Int) - (d : Int) ∧
    2 * m ≤ (2 * k + 1) * 2 ^ d ∧ 2 * k * 2 ^ d ≤ 2 * m + 2 ^ d ∧ (0 < e → 4503599627370496 * 2 ^ d ≤ m)) ∨
    ∃ e d k t : Nat, rnd m p = e * 4503599627370496 + k ∧ (e = 0 ∨ 4503599627370496 ≤ k) ∧ k ≤ 2 * 4503599627370496 ∧ p + 1074 = (e : Int) + (t : Int) ∧ k = m * 2 ^ t := by
  have h1 := Nat.log2_self_le hm
  have h2 := @Nat.lt_log2_self m
  obtain ⟨g, hg⟩ : ∃ g, g = m.log2 := ⟨_, rfl⟩
  obtain ⟨L, hL⟩ : ∃ L, L = keptAt m p := ⟨_, rfl⟩
  have hL1 : p + g - 52 ≤ L := by rw [hL, hg]; unfold keptAt; omega
  have hL2 : -1074 ≤ L := by rw [hL]; unfold keptAt; omega
  have hL3 : L = p + g - 52 ∨ L = -1074 := by rw [hL, hg]; unfold keptAt; omega
  unfold rnd
  rw [← hL]
  rw [← hg] at h1 h2
  by_cases hpl : p < L
  · left
    have e0 : (p - L).toNat = 0 := by omega
    rw [e0, Nat.shiftLeft_zero]
    refine ⟨(L + 1074).toNat, (L - p).toNat, Toward.even.cut false m (L - p).toNat, rfl, ?_, ?_, by omega, ?_⟩
    all_goals
      generalize hd : (L - p).toNat = d
      generalize he : (L + 1074).toNat = e
      by_cases hfar : g + 2 < d
      · have hk := cut_far m d hm (by rw [← hg]; exact hfar)
        have hez : e = 0 := by omega
        rw [hk]
        have hpow : 2 ^ (g + 2) ≤ 2 ^ d := Nat.pow_le_pow_right (by omega) (by omega)
        have hq : 2 ^ (g + 2) = 2 * 2 ^ (g + 1) := by rw [Nat.pow_succ 2 (g + 1), Nat.mul_comm]
        first
          | exact .inl hez
          | omega
          | refine ⟨by omega, by omega, fun h => by omega⟩
      · obtain ⟨c1, c2⟩ := cut_bounds m d (by rw [← hg]; omega)
        generalize hk : Toward.even.cut false m d = k at c1 c2 ⊢
        have hdg : g ≤ d + 52 := by omega
        have hm53 : m < 2 ^ d * 9007199254740992 := by
          have : 2 ^ (g + 1) ≤ 2 ^ (d + 53) := Nat.pow_le_pow_right (by omega) (by omega)
          rw [Nat.pow_add 2 d 53] at this
          have e53 : (2 : Nat) ^ 53 = 9007199254740992 := by decide
          rw [e53] at this
          omega
        have hlow : 0 < e → 4503599627370496 * 2 ^ d ≤ m := by
          intro h
          have hge : g = d + 52 := by omega
          rw [hge, Nat.pow_add] at h1
          have e52 : (2 : Nat) ^ 52 = 4503599627370496 := by decide
          rw [e52] at h1
          omega
        have hp := Nat.two_pow_pos d
        generalize hG : 2 ^ d = G at c1 c2 hm53 hlow hp ⊢
        first
          | exact ⟨c1, c2, hlow⟩
          | (by_cases h : e = 0
             · exact .inl h
             · right
               have := hlow (by omega)
               apply Nat.le_of_not_lt
               intro hlt
               have : (2 * k + 1) * G ≤ (2 * 4503599627370495 + 1) * G := Nat.mul_le_mul_right _ (by omega)
               omega)
          | (apply Nat.le_of_not_lt
             intro hlt
             have : 2 * (2 * 4503599627370496 + 1) * G ≤ 2 * k * G := Nat.mul_le_mul_right _ (by omega)
             omega)
  · right
    have e0 : (L - p).toNat = 0 := by omega
    rw [e0, cut_zero, Nat.shiftLeft_eq]
    refine ⟨(L + 1074).toNat, 0, m * 2 ^ (p - L).toNat, (p - L).toNat, rfl, ?_, ?_, by omega, rfl⟩
    all_goals
      generalize ht : (p - L).toNat = t
      generalize he : (L + 1074).toNat = e
      have hgt : g + t ≤ 52 := by omega
    · by_cases h : e = 0
      · exact .inl h
      · right
        have hge : g + t = 52 := by omega
        have : 2 ^ g * 2 ^ t ≤ m * 2 ^ t := Nat.mul_le_mul_right _ h1
        rw [← Nat.pow_add, hge] at this
        have e52 : (2 : Nat) ^ 52 = 4503599627370496 := by decide
        omega
    · have h3 : m * 2 ^ t ≤ 2 ^ (g + 1) * 2 ^ t := Nat.mul_le_mul_right _ (Nat.le_of_lt h2)
      rw [← Nat.pow_add] at h3
      have h4 : 2 ^ (g + 1 + t) ≤ 2 ^ 53 := Nat.pow_le_pow_right (by omega) (by omega)
      have e53 : (2 : Nat) ^ 53 = 9007199254740992 := by decide
      omega

theorem gap_ge (e k : Nat) (h : e = 0 ∨ 4503599627370496 ≤ k) : 2 ^ e ≤ 2 ^ ((e * 4503599627370496 + k) / 4503599627370496 - 1) := Nat.pow_le_pow_right (by omega) (by omega)

/-- NEAREST: the value lies within half a gap of the rung that comes out. -/
theorem rnd_N (m : Nat) (p : Int) (hm : m ≠ 0) : 2 * m * 2 ^ (p + 1074).toNat ≤ (V (rnd m p) + V (rnd m p + 1)) * 2 ^ (-(p + 1074)).toNat ∧
    (0 < rnd m p → (V (rnd m p - 1) + V (rnd m p)) * 2 ^ (-(p + 1074)).toNat ≤ 2 * m * 2 ^ (p + 1074).toNat) := by
  rcases rnd_parts m p hm with ⟨e, d, k, hr, h1, h2, hp, c1, c2, c3⟩ | ⟨e, d, k, t, hr, h1, h2, hp, hk⟩
  · have hsc : 2 ^ e * 2 ^ (-(p + 1074)).toNat = 2 ^ d * 2 ^ (p + 1074).toNat := by
      rw [← Nat.pow_add, ← Nat.pow_add]; congr 1; omega
    have hV := V_at e k h1 h2
    rw [hr]
    have hs := V_succ (e * 4503599627370496 + k)
    have hg := gap_ge e k h1
    generalize 2 ^ (-(p + 1074)).toNat = b at *
    generalize 2 ^ (p + 1074).toNat = a at *
    constructor
    · have s1 : 2 * m * a ≤ (2 * k + 1) * 2 ^ d * a := Nat.mul_le_mul_right _ c1
      have s2 : (2 * k + 1) * 2 ^ d * a = (2 * k + 1) * 2 ^ e * b := by rw [Nat.mul_assoc, ← hsc, ← Nat.mul_assoc]
      have s3 : (2 * k + 1) * 2 ^ e * b ≤ (V (e * 4503599627370496 + k) + V (e * 4503599627370496 + k + 1)) * b := by
        apply Nat.mul_le_mul_right
        rw [hs, hV, Nat.add_mul, Nat.mul_assoc, Nat.one_mul]
        omega
      omega
    · intro hpos
      by_cases hb : 0 < e ∧ k = 4503599627370496
      · obtain ⟨he, hkb⟩ := hb
        have s1 := c3 he
        have s2 : V (e * 4503599627370496 + k - 1) ≤ V (e * 4503599627370496 + k) := V_mono (by omega)
        have s3 : (V (e * 4503599627370496 + k - 1) + V (e * 4503599627370496 + k)) * b ≤ 2 * (k * 2 ^ e) * b := by
          apply Nat.mul_le_mul_right; rw [hV] at s2 ⊢; omega
        have s4 : 2 * (k * 2 ^ e) * b = 2 * (4503599627370496 * 2 ^ d) * a := by rw [hkb, Nat.mul_assoc 2, Nat.mul_assoc 4503599627370496, hsc, ← Nat.mul_assoc 4503599627370496, ← Nat.mul_assoc 2]
        have s5 : 2 * (4503599627370496 * 2 ^ d) * a ≤ 2 * m * a := Nat.mul_le_mul_right _ (by omega)
        omega
      · have hk1 : 1 ≤ k := by omega
        have hg2 := gap_ge e (k - 1) (by omega)
        have hs2 := V_succ (e * 4503599627370496 + (k - 1))
        have ex : e * 4503599627370496 + (k - 1) + 1 = e * 4503599627370496 + k := by omega
        rw [ex] at hs2
        rw [show e * 4503599627370496 + k - 1 = e * 4503599627370496 + (k - 1) by omega]
        have s3 : (V (e * 4503599627370496 + (k - 1)) + V (e * 4503599627370496 + k)) * b ≤ (2 * k - 1) * 2 ^ e * b := by
          apply Nat.mul_le_mul_right
          rw [hV] at hs2 ⊢
          rw [Nat.sub_mul, Nat.mul_assoc, Nat.one_mul]
          omega
        have s4 : (2 * k - 1) * 2 ^ e * b = (2 * k - 1) * 2 ^ d * a := by rw [Nat.mul_assoc, hsc, ← Nat.mul_assoc]
        have s5 : (2 * k - 1) * 2 ^ d * a ≤ 2 * m * a := by
          apply Nat.mul_le_mul_right
          rw [Nat.sub_mul, Nat.one_mul]; omega
        omega
  · have hb : (-(p + 1074)).toNat = 0 := by omega
    have ha : (p + 1074).toNat = t + e := by omega
    have hV := V_at e k h1 h2
    have hval : m * 2 ^ (t + e) = V (e * 4503599627370496 + k) := by rw [hV, hk, Nat.pow_add, Nat.mul_assoc]
    rw [hr, hb, ha, Nat.mul_assoc, hval]
    have s1 := V_mono (show e * 4503599627370496 + k ≤ e * 4503599627370496 + k + 1 by omega)
    have s2 := V_mono (show e * 4503599627370496 + k - 1 ≤ e * 4503599627370496 + k by omega)
    constructor
    · omega
    · intro _; omega

/-- A value at least a rung's: at least that rung comes out. -/
theorem rnd_ge (m : Nat) (p : Int) (hm : m ≠ 0) (x : Nat) (h : V x * 2 ^ (-(p + 1074)).toNat ≤ m * 2 ^ (p + 1074).toNat) : x ≤ rnd m p := by
  apply Nat.le_of_not_lt
  intro hlt
  have h1 := (rnd_N m p hm).1
  have h2 := V_mono (show rnd m p + 1 ≤ x by omega)
  have h3 := V_strict (show rnd m p < x by omega)
  have hb := Nat.two_pow_pos (-(p + 1074)).toNat
  have h4 : (V (rnd m p) + V (rnd m p + 1)) * 2 ^ (-(p + 1074)).toNat < (2 * V x) * 2 ^ (-(p + 1074)).toNat := Nat.mul_lt_mul_of_pos_right (by omega) hb
  rw [Nat.mul_assoc] at h4
  rw [Nat.mul_assoc] at h1
  omega
/-- A value at most a rung's: at most that rung comes out. -/
theorem rnd_le (m : Nat) (p : Int) (hm : m ≠ 0) (x : Nat) (h : m * 2 ^ (p + 1074).toNat ≤ V x * 2 ^ (-(p + 1074)).toNat) : rnd m p ≤ x := by
  apply Nat.le_of_not_lt
  intro hlt
  have h1 := (rnd_N m p hm).2 (by omega)
  have h2 := V_mono (show x ≤ rnd m p - 1 by omega)
  have h3 := V_strict (show x < rnd m p by omega)
  have hb := Nat.two_pow_pos (-(p + 1074)).toNat
  have h4 : (2 * V x) * 2 ^ (-(p + 1074)).toNat < (V (rnd m p - 1) + V (rnd m p)) * 2 ^ (-(p + 1074)).toNat := Nat.mul_lt_mul_of_pos_right (by omega) hb
  rw [Nat.mul_assoc] at h4 h1
  omega
/-- A rung's own value: that rung. -/
theorem rnd_eq (m : Nat) (p : Int) (hm : m ≠ 0) (x : Nat) (h : m * 2 ^ (p + 1074).toNat = V x * 2 ^ (-(p + 1074)).toNat) : rnd m p = x :=
  Nat.le_antisymm (rnd_le m p hm x (Nat.le_of_eq h)) (rnd_ge m p hm x (Nat.le_of_eq h.symm))
/-- A smaller value: no greater rung. -/
theorem rnd_mono (m n : Nat) (p q : Int) (hm : m ≠ 0) (hn : n ≠ 0) (h : m * 2 ^ (p + 1074).toNat * 2 ^ (-(q + 1074)).toNat < n * 2 ^ (q + 1074).toNat * 2 ^ (-(p + 1074)).toNat) : rnd m p ≤ rnd n q := by
  apply Nat.le_of_not_lt
  intro hlt
  have h1 := (rnd_N m p hm).2 (by omega)
  have h2 := (rnd_N n q hn).1
  have h3 := V_mono (show rnd n q ≤ rnd m p - 1 by omega)
  have h4 := V_mono (show rnd n q + 1 ≤ rnd m p by omega)
  generalize 2 ^ (p + 1074).toNat = a at *
  generalize 2 ^ (-(p + 1074)).toNat = b at *
  generalize 2 ^ (q + 1074).toNat = c at *
  generalize 2 ^ (-(q + 1074)).toNat = d at *
  have s1 : (V (rnd m p - 1) + V (rnd m p)) * b * d ≤ 2 * m * a * d := Nat.mul_le_mul_right _ h1
  have s2 : 2 * n * c * b ≤ (V (rnd n q) + V (rnd n q + 1)) * d * b := Nat.mul_le_mul_right _ h2
  have s3 : (V (rnd n q) + V (rnd n q + 1)) * d * b ≤ (V (rnd m p - 1) + V (rnd m p)) * d * b := Nat.mul_le_mul_right _ (Nat.mul_le_mul_right _ (by omega))
  have s4 : (V (rnd m p - 1) + V (rnd m p)) * d * b = (V (rnd m p - 1) + V (rnd m p)) * b * d := Nat.mul_right_comm _ _ _
  have s5 : 2 * m * a * d = 2 * (m * a * d) := by rw [Nat.mul_assoc 2, Nat.mul_assoc 2]
  have s6 : 2 * n * c * b = 2 * (n * c * b) := by rw [Nat.mul_assoc 2, Nat.mul_assoc 2]
  omega

end Go.Proofs.Qxb6615185a
