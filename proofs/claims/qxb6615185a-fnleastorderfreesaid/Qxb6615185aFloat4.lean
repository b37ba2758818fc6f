/-
  DERIVED. Seat b6615185a: products and quotients of words. Nothing of Go in it.
-/
import Derived.Test.Qxb6615185aFloat3
namespace Go.Proofs.Qxb6615185a
set_option linter.unusedVariables false
open Ieee

/-- Units to one. -/
def UE : Nat := 1074
theorem UE_eq : UE = 1074 := rfl

/-- 'r' is the word nearest to 'num / den' units: told from below and from above. -/
structure Near (r num den : Nat) : Prop where
  le : r ≤ 9218868437227405312
  lb : ∀ z, z ≤ 9218868437227405312 → V z * den ≤ num → z ≤ r
  ub : ∀ z, num ≤ V z * den → r ≤ z

theorem near_zero (den : Nat) (hd : 0 < den) : Near 0 0 den := by
  refine ⟨by omega, fun z hz h => ?_, fun z _ => Nat.zero_le _⟩
  have h0 : V z = 0 := by
    rcases Nat.mul_eq_zero.1 (Nat.le_zero.1 h) with h | h
    · exact h
    · omega
  have := V_zero
  have := V_le_iff.1 (show V z ≤ V 0 by omega)
  omega

theorem near_of (m : Nat) (p : Int) (num den : Nat) (hden : 0 < den) (hm : m ≠ 0)
    (hlb : ∀ z, V z * den ≤ num → V z * 2 ^ (-(p + 1074)).toNat ≤ m * 2 ^ (p + 1074).toNat)
    (hub : ∀ z, num ≤ V z * den → m * 2 ^ (p + 1074).toNat ≤ V z * 2 ^ (-(p + 1074)).toNat) : Near (rw_ m p) num den := by
  refine ⟨rw_le _ _, fun z hz h => ?_, fun z h => ?_⟩
  · unfold rw_; rw [if_neg hm]
    have := rnd_ge m p hm z (hlb z h)
    omega
  · unfold rw_; rw [if_neg hm]
    have := rnd_le m p hm z (hub z h)
    omega

/-- An exact value. -/
theorem near_rw (m : Nat) (p : Int) (num den : Nat) (hden : 0 < den) (h : m * 2 ^ (p + 1074).toNat * den = num * 2 ^ (-(p + 1074)).toNat) : Near (rw_ m p) num den := by
  have hb := Nat.two_pow_pos (-(p + 1074)).toNat
  by_cases hm : m = 0
  · subst hm
    have : num = 0 := by
      rw [Nat.zero_mul, Nat.zero_mul] at h
      rcases Nat.mul_eq_zero.1 h.symm with h | h
      · exact h
      · omega
    subst this
    have : rw_ 0 p = 0 := by unfold rw_; rw [if_pos rfl]
    rw [this]
    exact near_zero den hden
  · refine near_of m p num den hden hm (fun z hz => ?_) (fun z hz => ?_)
    · apply Nat.le_of_mul_le_mul_right _ hden
      rw [h, Nat.mul_right_comm]
      exact Nat.mul_le_mul_right _ hz
    · apply Nat.le_of_mul_le_mul_right _ hden
      rw [h, Nat.mul_right_comm]
      exact Nat.mul_le_mul_right _ hz

theorem product_num (s t : Bool) (m n : Nat) (i j : Int) : Datum.product (.number s m i) (.number t n j) = some (.number (s ^^ t) (m * n) (i + j)) := rfl
theorem quotient_num (g : Nat) (s t : Bool) (m n : Nat) (i j : Int) (hn : n ≠ 0) : Datum.quotient g (.number s m i) (.number t n j) = some (.number (s ^^ t) (2 * (m * 2 ^ (g + n.log2 - m.log2) / n) + (m * 2 ^ (g + n.log2 - m.log2) % n != 0).toNat) (i - j - ((g + n.log2 - m.log2 : Nat) : Int) - 1)) := by
  simp only [Datum.quotient, if_neg hn, Nat.shiftLeft_eq]

theorem mul_eq (x y : Nat) (hx : x < 9218868437227405312) (hy : y < 9218868437227405312) : double.mul x y = some (rw_ (mg x * mg y) (pl x + pl y)) := by
  unfold Format.mul
  rw [show double.read x = _ from read_at false x hx, show double.read y = _ from read_at false y hy]
  rw [product_num, Option.map_some, write_rw, Bool.xor_false, word_false]

theorem mul_near (x y : Nat) (hx : x < 9218868437227405312) (hy : y < 9218868437227405312) : ∃ r, double.mul x y = some r ∧ Near r (V x * V y) (2 ^ UE) := by
  refine ⟨_, mul_eq x y hx hy, near_rw _ _ _ _ (Nat.two_pow_pos _) ?_⟩
  have px := pl_ge x
  have py := pl_ge y
  rw [← mg_V x, ← mg_V y]
  have e : ∀ A B c d : Nat, A * 2 ^ c * (B * 2 ^ d) = A * B * 2 ^ (c + d) := by
    intro A B c d; rw [Nat.pow_add, Nat.mul_mul_mul_comm]
  have hU := UE_eq
  rw [e, Nat.mul_assoc (mg x * mg y), Nat.mul_assoc (mg x * mg y), ← Nat.pow_add, ← Nat.pow_add]
  congr 2
  omega

/-- A greater factor: no smaller product. -/
theorem mul_mono (x x' y : Nat) (hx : x' < 9218868437227405312) (hy : y < 9218868437227405312) (h : x ≤ x') : ∃ r r', double.mul x y = some r ∧ double.mul x' y = some r' ∧ r ≤ r' := by
  refine ⟨_, _, mul_eq x y (by omega) hy, mul_eq x' y hx hy, ?_⟩
  by_cases hy0 : y = 0
  · subst hy0
    have : mg 0 = 0 := (mg_zero 0).2 rfl
    rw [this]
    unfold rw_
    rw [if_pos (by simp)]; omega
  by_cases hx0 : x = 0
  · subst hx0
    have : mg 0 = 0 := (mg_zero 0).2 rfl
    rw [this]
    unfold rw_
    rw [if_pos (by simp)]; omega
  by_cases he : x = x'
  · subst he; exact Nat.le_refl _
  have my : mg y ≠ 0 := fun h => hy0 ((mg_zero y).1 h)
  have mx : mg x ≠ 0 := fun h => hx0 ((mg_zero x).1 h)
  have mx' : mg x' ≠ 0 := fun h => by have := (mg_zero x').1 h; omega
  have n1 : mg x * mg y ≠ 0 := Nat.mul_ne_zero mx my
  have n2 : mg x' * mg y ≠ 0 := Nat.mul_ne_zero mx' my
  unfold rw_
  rw [if_neg n1, if_neg n2]
  have hm : rnd (mg x * mg y) (pl x + pl y) ≤ rnd (mg x' * mg y) (pl x' + pl y) := by
    refine rnd_mono _ _ _ _ n1 n2 ?_
    have px := pl_ge x
    have px' := pl_ge x'
    have py := pl_ge y
    have hV := V_strict (show x < x' by omega)
    rw [← mg_V x, ← mg_V x'] at hV
    have hy1 : 0 < mg y := Nat.pos_of_ne_zero my
    rw [Nat.mul_assoc, ← Nat.pow_add, Nat.mul_assoc (mg x' * mg y), ← Nat.pow_add]
    generalize hc1 : (pl x + pl y + 1074).toNat + (-(pl x' + pl y + 1074)).toNat = c1
    generalize hc2 : (pl x' + pl y + 1074).toNat + (-(pl x + pl y + 1074)).toNat = c2
    have hrel : c1 + (pl x' + 1074).toNat = c2 + (pl x + 1074).toNat := by omega
    generalize (pl x + 1074).toNat = X at *
    generalize (pl x' + 1074).toNat = X' at *
    apply Nat.lt_of_mul_lt_mul_right (a := 2 ^ X')
    rw [Nat.mul_assoc, ← Nat.pow_add, hrel, Nat.mul_assoc (mg x' * mg y), ← Nat.pow_add]
    have e1 : mg x * mg y * 2 ^ (c2 + X) = mg x * 2 ^ X * (mg y * 2 ^ c2) := by rw [Nat.add_comm, Nat.pow_add, Nat.mul_mul_mul_comm]
    have e2 : mg x' * mg y * 2 ^ (c2 + X') = mg x' * 2 ^ X' * (mg y * 2 ^ c2) := by rw [Nat.add_comm, Nat.pow_add, Nat.mul_mul_mul_comm]
    rw [e1, e2]
    exact Nat.mul_lt_mul_of_pos_right hV (Nat.mul_pos hy1 (Nat.two_pow_pos _))
  omega

theorem mg_lt (x : Nat) : mg x < 2 * 4503599627370496 := by unfold mg; split <;> omega
theorem mg_log (x : Nat) (h : mg x ≠ 0) : (mg x).log2 ≤ 52 := by
  have h1 := Nat.log2_self_le h
  have h2 := mg_lt x
  apply Nat.le_of_not_lt
  intro hl
  have : 2 ^ 53 ≤ 2 ^ (mg x).log2 := Nat.pow_le_pow_right (by omega) (by omega)
  have e53 : (2 : Nat) ^ 53 = 9007199254740992 := by decide
  omega

theorem div_eq (x y : Nat) (hx : x < 9218868437227405312) (hy : y < 9218868437227405312) (hy0 : y ≠ 0) (s : Bool) :
    double.div (double.word s x) y = some (double.word s (rw_ (2 * (mg x * 2 ^ (54 + (mg y).log2 - (mg x).log2) / mg y) + (mg x * 2 ^ (54 + (mg y).log2 - (mg x).log2) % mg y != 0).toNat) (pl x - pl y - ((54 + (mg y).log2 - (mg x).log2 : Nat) : Int) - 1))) := by
  have my : mg y ≠ 0 := fun h => hy0 ((mg_zero y).1 h)
  unfold Format.div
  rw [read_at s x hx, show double.read y = _ from read_at false y hy]
  have hf : double.fractionBits + 2 = 54 := rfl
  rw [hf, quotient_num 54 s false _ _ _ _ my, Option.map_some, write_rw, Bool.xor_false]

/-- Quotients: nearest to the quotient of the values. -/
theorem div_near (x y : Nat) (hx : x < 9218868437227405312) (hy : y < 9218868437227405312) (hy0 : y ≠ 0) : ∃ r, (∀ s, double.div (double.word s x) y = some (double.word s r)) ∧ Near r (V x * 2 ^ UE) (V y) := by
  refine ⟨_, div_eq x y hx hy hy0, ?_⟩
  have my : mg y ≠ 0 := fun h => hy0 ((mg_zero y).1 h)
  have hn : 0 < mg y := Nat.pos_of_ne_zero my
  have hVy : 0 < V y := by
    have := V_strict (show 0 < y by omega)
    omega
  by_cases hm : mg x = 0
  · have hx0 := (mg_zero x).1 hm
    rw [hm, hx0, V_zero, Nat.zero_mul, Nat.zero_mul, Nat.zero_div, Nat.zero_mod]
    have : rw_ (2 * 0 + ((0 : Nat) != 0).toNat) (pl 0 - pl y - ((54 + (mg y).log2 - (Nat.log2 0) : Nat) : Int) - 1) = 0 := by unfold rw_; rw [if_pos (by simp)]
    rw [this]
    exact near_zero _ hVy
  have hU := UE_eq
  have px := pl_ge x
  have py := pl_ge y
  have hlm := mg_log x hm
  have b1 := Nat.log2_self_le hm
  have b2 := @Nat.lt_log2_self (mg y)
  rw [← mg_V x, ← mg_V y]
  generalize hmore : 54 + (mg y).log2 - (mg x).log2 = more
  have hD : 9007199254740992 * mg y ≤ mg x * 2 ^ more := by
    have h1 : 2 ^ (mg x).log2 * 2 ^ more ≤ mg x * 2 ^ more := Nat.mul_le_mul_right _ b1
    rw [← Nat.pow_add, show (mg x).log2 + more = 53 + ((mg y).log2 + 1) by omega, Nat.pow_add] at h1
    have e53 : (2 : Nat) ^ 53 = 9007199254740992 := by decide
    rw [e53] at h1
    have : 9007199254740992 * mg y ≤ 9007199254740992 * 2 ^ ((mg y).log2 + 1) := Nat.mul_le_mul_left _ (Nat.le_of_lt b2)
    omega
  generalize hX : (pl x + 1074).toNat = X
  generalize hY : (pl y + 1074).toNat = Y
  have hE : pl x - pl y - (more : Int) - 1 + 1074 = (X : Int) - Y - more + 1073 := by omega
  generalize mg x = m at *
  generalize mg y = n at *
  have dm := Nat.div_add_mod (m * 2 ^ more) n
  have lt := Nat.mod_lt (m * 2 ^ more) hn
  generalize hDD : m * 2 ^ more = D at *
  have hq : 9007199254740992 ≤ D / n := (Nat.le_div_iff_mul_le hn).2 hD
  have hs : ∀ t, D ≤ t * n → 2 * (D / n) + (D % n != 0).toNat ≤ 2 * t := by
    intro t ht
    by_cases hr : D % n = 0
    · have : D / n ≤ t := by
        apply Nat.le_of_mul_le_mul_left _ hn
        rw [Nat.mul_comm n t]; omega
      simp [hr]; omega
    · have : D / n < t := by
        apply Nat.lt_of_mul_lt_mul_left (a := n)
        rw [Nat.mul_comm n t]; omega
      have h1 : (D % n != 0).toNat = 1 := by simp [hr]
      rw [h1]; omega
  generalize hQ : 2 * (D / n) + (D % n != 0).toNat = Q at *
  have hQ2 : 2 * (D / n) ≤ Q := by omega
  have hQ0 : Q ≠ 0 := by omega
  refine near_of _ _ _ _ (Nat.mul_pos hn (Nat.two_pow_pos _)) hQ0 (fun z hz => ?_) (fun z hz => ?_)
  · rw [hE]
    by_cases hneg : (X : Int) - Y - more + 1074 ≤ 0
    · obtain ⟨w, hw⟩ : ∃ w : Nat, X + 1074 + w = Y + more := ⟨Y + more - (X + 1074), by omega⟩
      have e1 : ((X : Int) - Y - more + 1073).toNat = 0 := by omega
      have e2 : (-((X : Int) - Y - more + 1073)).toNat = w + 1 := by omega
      rw [e1, e2, Nat.pow_zero, Nat.mul_one]
      have h1 : V z * 2 ^ w * n ≤ D := by
        apply Nat.le_of_mul_le_mul_right _ (Nat.two_pow_pos Y)
        have h2 : V z * (n * 2 ^ Y) * 2 ^ w ≤ m * 2 ^ X * 2 ^ UE * 2 ^ w := Nat.mul_le_mul_right _ hz
        have e3 : m * 2 ^ X * 2 ^ UE * 2 ^ w = D * 2 ^ Y := by
          rw [← hDD, Nat.mul_assoc, Nat.mul_assoc, Nat.mul_assoc, ← Nat.pow_add, ← Nat.pow_add, ← Nat.pow_add]
          congr 2; omega
        have e4 : V z * 2 ^ w * n * 2 ^ Y = V z * (n * 2 ^ Y) * 2 ^ w := by rw [Nat.mul_assoc, Nat.mul_right_comm]
        omega
      have h3 : V z * 2 ^ w ≤ D / n := (Nat.le_div_iff_mul_le hn).2 h1
      rw [Nat.pow_succ, ← Nat.mul_assoc]
      omega
    · obtain ⟨w, hw⟩ : ∃ w : Nat, X + 1074 = Y + more + (w + 1) := ⟨X + 1074 - Y - more - 1, by omega⟩
      have e1 : ((X : Int) - Y - more + 1073).toNat = w := by omega
      have e2 : (-((X : Int) - Y - more + 1073)).toNat = 0 := by omega
      rw [e1, e2, Nat.pow_zero, Nat.mul_one]
      have h1 : V z * n ≤ D * 2 ^ (w + 1) := by
        apply Nat.le_of_mul_le_mul_right _ (Nat.two_pow_pos Y)
        have e3 : m * 2 ^ X * 2 ^ UE = D * 2 ^ (w + 1) * 2 ^ Y := by
          rw [← hDD, Nat.mul_assoc, Nat.mul_assoc, Nat.mul_assoc, ← Nat.pow_add, ← Nat.pow_add, ← Nat.pow_add]
          congr 2; omega
        rw [← e3, Nat.mul_assoc (V z)]; exact hz
      have h2 : V z ≤ D / n * 2 ^ (w + 1) := by
        apply Nat.le_of_not_lt
        intro hlt
        obtain ⟨e, k, hk, hk1, hk2, _⟩ := V_parts z
        have hV := V_at e k hk1 (by omega)
        rw [← hk] at hV
        have hew : w + 1 < e := by
          apply Nat.lt_of_not_le
          intro hle
          have : k * 2 ^ e ≤ D / n * 2 ^ (w + 1) := Nat.mul_le_mul (by omega) (Nat.pow_le_pow_right (by omega) hle)
          omega
        have e5 : k * 2 ^ e = k * 2 ^ (e - (w + 1)) * 2 ^ (w + 1) := by rw [Nat.mul_assoc, ← Nat.pow_add]; congr 2; omega
        have h6 : k * 2 ^ (e - (w + 1)) * n ≤ D := by
          apply Nat.le_of_mul_le_mul_right _ (Nat.two_pow_pos (w + 1))
          rw [Nat.mul_right_comm, ← e5, ← hV]; exact h1
        have h7 := (Nat.le_div_iff_mul_le hn).2 h6
        have h8 : k * 2 ^ (e - (w + 1)) * 2 ^ (w + 1) ≤ D / n * 2 ^ (w + 1) := Nat.mul_le_mul_right _ h7
        omega
      have h3 : 2 * (D / n) * 2 ^ w ≤ Q * 2 ^ w := Nat.mul_le_mul_right _ hQ2
      rw [Nat.pow_succ, ← Nat.mul_assoc] at h2
      have e6 : 2 * (D / n) * 2 ^ w = D / n * 2 ^ w * 2 := by rw [Nat.mul_assoc, Nat.mul_comm 2]
      omega
  · rw [hE]
    by_cases hneg : (X : Int) - Y - more + 1074 ≤ 0
    · obtain ⟨w, hw⟩ : ∃ w : Nat, X + 1074 + w = Y + more := ⟨Y + more - (X + 1074), by omega⟩
      have e1 : ((X : Int) - Y - more + 1073).toNat = 0 := by omega
      have e2 : (-((X : Int) - Y - more + 1073)).toNat = w + 1 := by omega
      rw [e1, e2, Nat.pow_zero, Nat.mul_one]
      have h1 : D ≤ V z * 2 ^ w * n := by
        apply Nat.le_of_mul_le_mul_right _ (Nat.two_pow_pos Y)
        have h2 : m * 2 ^ X * 2 ^ UE * 2 ^ w ≤ V z * (n * 2 ^ Y) * 2 ^ w := Nat.mul_le_mul_right _ hz
        have e3 : m * 2 ^ X * 2 ^ UE * 2 ^ w = D * 2 ^ Y := by
          rw [← hDD, Nat.mul_assoc, Nat.mul_assoc, Nat.mul_assoc, ← Nat.pow_add, ← Nat.pow_add, ← Nat.pow_add]
          congr 2; omega
        have e4 : V z * 2 ^ w * n * 2 ^ Y = V z * (n * 2 ^ Y) * 2 ^ w := by rw [Nat.mul_assoc, Nat.mul_right_comm]
        omega
      have h3 := hs _ h1
      rw [Nat.pow_succ, ← Nat.mul_assoc]
      omega
    · obtain ⟨w, hw⟩ : ∃ w : Nat, X + 1074 = Y + more + (w + 1) := ⟨X + 1074 - Y - more - 1, by omega⟩
      have e1 : ((X : Int) - Y - more + 1073).toNat = w := by omega
      have e2 : (-((X : Int) - Y - more + 1073)).toNat = 0 := by omega
      rw [e1, e2, Nat.pow_zero, Nat.mul_one]
      have h1 : D * 2 ^ (w + 1) ≤ V z * n := by
        apply Nat.le_of_mul_le_mul_right _ (Nat.two_pow_pos Y)
        have e3 : m * 2 ^ X * 2 ^ UE = D * 2 ^ (w + 1) * 2 ^ Y := by
          rw [← hDD, Nat.mul_assoc, Nat.mul_assoc, Nat.mul_assoc, ← Nat.pow_add, ← Nat.pow_add, ← Nat.pow_add]
          congr 2; omega
        rw [← e3, Nat.mul_assoc (V z)]; exact hz
      obtain ⟨e, k, hk, hk1, hk2, _⟩ := V_parts z
      have hV := V_at e k hk1 (by omega)
      rw [← hk] at hV
      have hew : w + 1 ≤ e := by
        apply Nat.le_of_not_lt
        intro hlt
        have h2 : 9007199254740992 * n * 2 ^ (w + 1) ≤ D * 2 ^ (w + 1) := Nat.mul_le_mul_right _ hD
        have h3 : k * 2 ^ e < 9007199254740992 * 2 ^ (w + 1) := by
          have a1 : k * 2 ^ e ≤ k * 2 ^ (w + 1) := Nat.mul_le_mul_left _ (Nat.pow_le_pow_right (by omega) (by omega))
          have a2 : k * 2 ^ (w + 1) < 9007199254740992 * 2 ^ (w + 1) := Nat.mul_lt_mul_of_pos_right (by omega) (Nat.two_pow_pos _)
          omega
        have h4 : k * 2 ^ e * n < 9007199254740992 * 2 ^ (w + 1) * n := Nat.mul_lt_mul_of_pos_right h3 hn
        rw [hV] at h1
        have e5 : 9007199254740992 * 2 ^ (w + 1) * n = 9007199254740992 * n * 2 ^ (w + 1) := Nat.mul_right_comm _ _ _
        omega
      have e5 : k * 2 ^ e = k * 2 ^ (e - (w + 1)) * 2 ^ (w + 1) := by rw [Nat.mul_assoc, ← Nat.pow_add]; congr 2; omega
      have h6 : D ≤ k * 2 ^ (e - (w + 1)) * n := by
        apply Nat.le_of_mul_le_mul_right _ (Nat.two_pow_pos (w + 1))
        rw [Nat.mul_right_comm, ← e5, ← hV]; exact h1
      have h7 := hs _ h6
      have h8 : Q * 2 ^ w ≤ 2 * (k * 2 ^ (e - (w + 1))) * 2 ^ w := Nat.mul_le_mul_right _ h7
      rw [hV, e5, Nat.pow_succ, ← Nat.mul_assoc]
      have e6 : 2 * (k * 2 ^ (e - (w + 1))) * 2 ^ w = k * 2 ^ (e - (w + 1)) * 2 ^ w * 2 := by rw [Nat.mul_assoc, Nat.mul_comm 2]
      omega

end Go.Proofs.Qxb6615185a
