/-
  DERIVED. Seat b6615185a: small integers, halves, the bracket. Nothing of Go in it.
-/
import Derived.Test.Qxb6615185aFloat4
namespace Go.Proofs.Qxb6615185a
set_option linter.unusedVariables false
open Ieee

def addW (x y : Nat) : Nat := (double.add x y).getD 0
def subW (x y : Nat) : Nat := (double.sub x y).getD 0
def mulW (x y : Nat) : Nat := (double.mul x y).getD 0
def divW (x y : Nat) : Nat := (double.div x y).getD 0

theorem e52 : (2 : Nat) ^ 52 = 4503599627370496 := by decide

/-- Powers of two are words. -/
theorem V_pow (j : Nat) : ∃ z, V z = 2 ^ j ∧ z ≤ j * 4503599627370496 + 4503599627370496 ∧ (52 ≤ j → z = (j - 52) * 4503599627370496 + 4503599627370496) := by
  by_cases h : j < 52
  · refine ⟨2 ^ j, ?_, ?_, fun h2 => by omega⟩
    · have hl : 2 ^ j < 2 ^ 52 := Nat.pow_lt_pow_right (by omega) h
      rw [e52] at hl
      have := V_at 0 (2 ^ j) (.inl rfl) (by omega)
      rw [Nat.zero_mul, Nat.zero_add, Nat.pow_zero, Nat.mul_one] at this
      exact this
    · have hl : 2 ^ j < 2 ^ 52 := Nat.pow_lt_pow_right (by omega) h
      rw [e52] at hl
      omega
  · refine ⟨(j - 52) * 4503599627370496 + 4503599627370496, ?_, by omega, fun _ => rfl⟩
    rw [V_at (j - 52) 4503599627370496 (.inr (Nat.le_refl _)) (by omega), ← e52, ← Nat.pow_add]
    congr 1; omega

theorem V_ONE : V 4607182418800017408 = 2 ^ UE := by
  obtain ⟨z, hz, _, h⟩ := V_pow UE
  have hU := UE_eq
  have := h (by omega)
  rw [show 4607182418800017408 = z by omega]; exact hz
theorem V_TWO : V 4611686018427387904 = 2 * 2 ^ UE := by
  obtain ⟨z, hz, _, h⟩ := V_pow (UE + 1)
  have hU := UE_eq
  have := h (by omega)
  rw [show 4611686018427387904 = z by omega, hz, Nat.pow_succ, Nat.mul_comm]
/-- '1e-9' is at least '2 ^ -30'. -/
theorem V_CI : 2 ^ (UE - 30) ≤ V 4472406533629990549 := by
  obtain ⟨z, hz, -, h⟩ := V_pow (UE - 30)
  have hU := UE_eq
  have hz2 := h (by omega)
  rw [← hz]
  clear hz h
  exact V_mono (by omega)

/-- Twice a word. -/
theorem V_dbl (x : Nat) (hx : x < 9214364837600034816) : ∃ y, V y = 2 * V x ∧ y < 9218868437227405312 := by
  obtain ⟨e, k, hk, h1, h2, _⟩ := V_parts x
  by_cases h : e = 0 ∧ k < 4503599627370496
  · refine ⟨0 * 4503599627370496 + 2 * k, ?_, by omega⟩
    rw [V_at 0 (2 * k) (.inl rfl) (by omega), hk, V_at e k h1 (by omega), h.1, Nat.pow_zero]; omega
  · refine ⟨(e + 1) * 4503599627370496 + k, ?_, by omega⟩
    rw [V_at (e + 1) k (by omega) (by omega), hk, V_at e k h1 (by omega), Nat.pow_succ, ← Nat.mul_assoc, Nat.mul_comm]

def gap (x : Nat) : Nat := 2 ^ (x / 4503599627370496 - 1)
theorem gap_mono {x y : Nat} (h : x ≤ y) : gap x ≤ gap y := Nat.pow_le_pow_right (by omega) (by omega)
theorem gap_two (x : Nat) : gap (x + 2) ≤ 2 * gap x := by
  unfold gap
  rw [show 2 * 2 ^ (x / 4503599627370496 - 1) = 2 ^ (x / 4503599627370496 - 1 + 1) by rw [Nat.pow_succ, Nat.mul_comm]]
  exact Nat.pow_le_pow_right (by omega) (by omega)
theorem V_gap (x : Nat) : V (x + 1) = V x + gap x := V_succ x
theorem gap_V (x : Nat) (h : 4503599627370496 ≤ x) : gap x * 4503599627370496 ≤ V x := by
  obtain ⟨e, k, hk, h1, h2, h3⟩ := V_parts x
  have : 4503599627370496 ≤ k := by omega
  unfold gap
  rw [← h3, hk, V_at e k h1 (by omega), Nat.mul_comm]
  exact Nat.mul_le_mul_right _ this

theorem half_near (x : Nat) (hx : x < 9218868437227405312) : ∃ r, (∀ s, double.div (double.word s x) 4611686018427387904 = some (double.word s r)) ∧ r ≤ x ∧ (∀ z, z ≤ 9218868437227405312 → 2 * V z ≤ V x → z ≤ r) ∧ (∀ z, V x ≤ 2 * V z → r ≤ z) := by
  obtain ⟨r, hr, hn⟩ := div_near x 4611686018427387904 hx (by omega) (by omega)
  rw [V_TWO] at hn
  have hp := Nat.two_pow_pos UE
  have lb : ∀ z, z ≤ 9218868437227405312 → 2 * V z ≤ V x → z ≤ r := fun z hz h => hn.lb z hz (by rw [← Nat.mul_assoc, Nat.mul_comm (V z) 2]; exact Nat.mul_le_mul_right _ h)
  have ub : ∀ z, V x ≤ 2 * V z → r ≤ z := fun z h => hn.ub z (by rw [← Nat.mul_assoc, Nat.mul_comm (V z) 2]; exact Nat.mul_le_mul_right _ h)
  exact ⟨r, hr, ub x (by omega), lb, ub⟩

/-- THE HALVED BRACKET LIES STRICTLY INSIDE. -/
def bis (lo up : Nat) : Nat := divW (addW lo up) 4611686018427387904
theorem bis_inside (lo up : Nat) (hup : up < 9214364837600034816) (h3 : lo + 3 ≤ up) : lo < bis lo up ∧ bis lo up < up ∧ double.add lo up = some (addW lo up) ∧ double.div (addW lo up) 4611686018427387904 = some (bis lo up) ∧ addW lo up < 9218868437227405312 := by
  obtain ⟨s, hs, hsI, slb, sub⟩ := add_pos lo up (by omega) (by omega)
  have hs' : addW lo up = s := by unfold addW; rw [hs]; rfl
  obtain ⟨y1, v1, l1⟩ := V_dbl (lo + 1) (by omega)
  obtain ⟨y2, v2, l2⟩ := V_dbl (up - 1) (by omega)
  have g1 := V_gap lo
  have g2 := V_gap (lo + 1)
  have m1 := gap_mono (show lo ≤ lo + 1 by omega)
  have m2 := V_mono (show lo + 2 ≤ up by omega)
  rw [show lo + 1 + 1 = lo + 2 by omega] at g2
  have a1 : y1 ≤ s := slb y1 (by omega) (by omega)
  have k1 := V_gap (up - 3)
  have k2 := V_gap (up - 2)
  have k3 := V_gap (up - 1)
  rw [show up - 3 + 1 = up - 2 by omega] at k1
  rw [show up - 2 + 1 = up - 1 by omega] at k2
  rw [show up - 1 + 1 = up by omega] at k3
  have n1 := gap_mono (show up - 3 ≤ up - 2 by omega)
  have n2 := gap_two (up - 3)
  rw [show up - 3 + 2 = up - 1 by omega] at n2
  have n3 := V_mono (show lo ≤ up - 3 by omega)
  have a2 : s ≤ y2 := sub y2 (by omega)
  have hsI' : s < 9218868437227405312 := by omega
  obtain ⟨r, hr, _, rlb, rub⟩ := half_near s hsI'
  have hr0 := hr false
  rw [word_false, word_false] at hr0
  have hb : bis lo up = r := by unfold bis divW; rw [hs', hr0]; rfl
  have b1 : lo + 1 ≤ r := rlb (lo + 1) (by omega) (by have := V_mono a1; omega)
  have b2 : r ≤ up - 1 := rub (up - 1) (by have := V_mono a2; omega)
  rw [hb, hs']
  exact ⟨by omega, by omega, hs, hr0, hsI'⟩

/-- The loop's own test: it says yes only where the bracket is wide. -/
def contB (scale lo up : Nat) : Bool := double.order (subW up lo) (mulW 4472406533629990549 (max scale lo)) == some .gt

theorem cont_facts (scale lo up : Nat) (hup : up < 9214364837600034816) (hlo : lo ≤ up) (hs : scale < 9218868437227405312) : double.sub up lo = some (subW up lo) ∧ subW up lo ≤ up ∧ double.mul 4472406533629990549 (max scale lo) = some (mulW 4472406533629990549 (max scale lo)) := by
  obtain ⟨d, hd, hdI, dlb, dub⟩ := sub_pos up lo (by omega) (by omega) hlo
  obtain ⟨m, hm, hn⟩ := mul_near 4472406533629990549 (max scale lo) (by omega) (by omega)
  have e1 : subW up lo = d := by unfold subW; rw [hd]; rfl
  have e2 : mulW 4472406533629990549 (max scale lo) = m := by unfold mulW; rw [hm]; rfl
  rw [e1, e2]
  exact ⟨hd, dub up (by omega), hm⟩

theorem wide_a (g vl M : Nat) (a : g * 4503599627370496 ≤ vl) (b : vl ≤ M) : 4 * g * 1073741824 ≤ M := by
  have h : 4 * g * 1073741824 ≤ g * 4503599627370496 := by
    rw [Nat.mul_comm 4 g, Nat.mul_assoc]; exact Nat.mul_le_mul_left _ (by decide)
  exact Nat.le_trans h (Nat.le_trans a b)
theorem wide_b (g g2 vb M : Nat) (h1 : g = 1) (a : g2 * 4503599627370496 ≤ vb) (h : g2 = 1) (b : vb ≤ M) : 4 * g * 1073741824 ≤ M := by
  subst h1; subst h
  exact wide_a 1 vb M a b
theorem cont_wide (scale lo up : Nat) (hup : up < 9214364837600034816) (hlo : lo ≤ up) (hs0 : 4503599627370496 ≤ scale) (hs : scale < 9218868437227405312) (h : contB scale lo up = true) : lo + 3 ≤ up := by
  apply Nat.le_of_not_lt
  intro hlt
  obtain ⟨d, hd, hdI, dlb, dub⟩ := sub_pos up lo (by omega) (by omega) hlo
  obtain ⟨m, hm, hn⟩ := mul_near 4472406533629990549 (max scale lo) (by omega) (by omega)
  have e1 : subW up lo = d := by unfold subW; rw [hd]; rfl
  have e2 : mulW 4472406533629990549 (max scale lo) = m := by unfold mulW; rw [hm]; rfl
  unfold contB at h
  rw [e1, e2, order_pos d m hdI hn.le] at h
  have hgt : m < d := by
    rcases Nat.lt_trichotomy d m with c | c | c
    · rw [cmpN_lt c] at h; simp at h
    · rw [cmpN_eq c] at h; simp at h
    · exact c
  have hU := UE_eq
  have hci := V_CI
  -- a word between the two
  obtain ⟨z, hz, hzle, _⟩ := V_pow (2 + (lo / 4503599627370496 - 1))
  have hz4 : V z = 4 * gap lo := by rw [hz, Nat.pow_add]; rfl
  have hzI : z ≤ 9218868437227405312 := by omega
  have g1 := V_gap lo
  have g2 := V_gap (lo + 1)
  have m1 := gap_two lo
  have m0 := gap_mono (show lo + 1 ≤ lo + 2 by omega)
  have mV := V_mono (show up ≤ lo + 2 by omega)
  have a1 : d ≤ z := dub z (by
    rw [show lo + 1 + 1 = lo + 2 by omega] at g2
    omega)
  have hM : V z * 2 ^ 30 ≤ V (max scale lo) := by
    rw [hz4]
    clear hci hU hz hz4 hn hm hzle hzI a1 mV m0 m1 g1 g2
    have e30 : (2 : Nat) ^ 30 = 1073741824 := by decide
    rw [e30]
    by_cases hb : 4503599627370496 ≤ lo
    · have h1 := gap_V lo hb
      have h2 := V_mono (show lo ≤ max scale lo by omega)
      exact wide_a _ _ _ h1 h2
    · have h1 : gap lo = 1 := by unfold gap; rw [show lo / 4503599627370496 - 1 = 0 by omega, Nat.pow_zero]
      have h2 := V_mono (show 4503599627370496 ≤ max scale lo by omega)
      have h3 := gap_V 4503599627370496 (Nat.le_refl _)
      have h4 : gap 4503599627370496 = 1 := by unfold gap; rw [show (4503599627370496 : Nat) / 4503599627370496 - 1 = 0 by omega, Nat.pow_zero]
      exact wide_b _ _ _ _ h1 h3 h4 h2
  have a2 : z ≤ m := hn.lb z hzI (by
    have h1 : V z * 2 ^ UE = V z * 2 ^ 30 * 2 ^ (UE - 30) := by rw [Nat.mul_assoc, ← Nat.pow_add, show 30 + (UE - 30) = UE by omega]
    rw [h1, Nat.mul_comm (V 4472406533629990549)]
    exact Nat.mul_le_mul hM hci)
  omega

/-! ### Small integers -/

def fi (k : Nat) : Nat := rw_ k 0
theorem fi_V (k : Nat) (hk : k ≤ 131072) : V (fi k) = k * 2 ^ UE ∧ fi k < 9214364837600034816 := by
  have hU := UE_eq
  have hn := near_rw k 0 (k * 2 ^ UE) 1 (by omega) (by rw [show (0 + 1074 : Int).toNat = UE by omega, show (-(0 + 1074 : Int)).toNat = 0 by omega])
  by_cases h0 : k = 0
  · subst h0
    have : fi 0 = 0 := by unfold fi rw_; rw [if_pos rfl]
    rw [this, V_zero]; omega
  have b1 := Nat.log2_self_le h0
  have b2 := @Nat.lt_log2_self k
  have hg : k.log2 ≤ 17 := by
    apply Nat.le_of_not_lt
    intro h
    have : 2 ^ 18 ≤ 2 ^ k.log2 := Nat.pow_le_pow_right (by omega) (by omega)
    have e18 : (2 : Nat) ^ 18 = 262144 := by decide
    omega
  generalize hgg : k.log2 = g at *
  have hlo : 4503599627370496 ≤ k * 2 ^ (52 - g) := by
    have : 2 ^ g * 2 ^ (52 - g) ≤ k * 2 ^ (52 - g) := Nat.mul_le_mul_right _ b1
    rw [← Nat.pow_add, show g + (52 - g) = 52 by omega, e52] at this
    exact this
  have hhi : k * 2 ^ (52 - g) < 2 * 4503599627370496 := by
    have : k * 2 ^ (52 - g) < 2 ^ (g + 1) * 2 ^ (52 - g) := Nat.mul_lt_mul_of_pos_right b2 (Nat.two_pow_pos _)
    rw [← Nat.pow_add, show g + 1 + (52 - g) = 52 + 1 by omega, Nat.pow_succ, e52] at this
    omega
  have hV := V_at (UE + g - 52) (k * 2 ^ (52 - g)) (.inr hlo) (by omega)
  have e : k * 2 ^ (52 - g) * 2 ^ (UE + g - 52) = k * 2 ^ UE := by rw [Nat.mul_assoc, ← Nat.pow_add]; congr 2; omega
  rw [e] at hV
  generalize hz : (UE + g - 52) * 4503599627370496 + k * 2 ^ (52 - g) = z at hV
  have hzB : z < 9214364837600034816 := by omega
  have h1 : z ≤ fi k := hn.lb z (by omega) (by omega)
  have h2 : fi k ≤ z := hn.ub z (by omega)
  have : fi k = z := by omega
  rw [this]
  exact ⟨hV, hzB⟩
theorem fi_zero : fi 0 = 0 := by unfold fi rw_; rw [if_pos rfl]
theorem fi_one : fi 1 = 4607182418800017408 := V_inj (by rw [(fi_V 1 (by omega)).1, V_ONE]; omega)
theorem add_fi (k : Nat) (hk : k < 131072) : double.add (fi k) 4607182418800017408 = some (fi (k + 1)) := by
  obtain ⟨v0, b0⟩ := fi_V k (by omega)
  obtain ⟨v1, b1⟩ := fi_V (k + 1) (by omega)
  obtain ⟨r, hr, hI, lb, ub⟩ := add_pos (fi k) 4607182418800017408 (by omega) (by omega)
  rw [V_ONE] at lb ub
  have e : V (fi (k + 1)) = V (fi k) + 2 ^ UE := by rw [v0, v1, Nat.add_mul, Nat.one_mul]
  have h1 := lb (fi (k + 1)) (by omega) (by omega)
  have h2 := ub (fi (k + 1)) (by omega)
  rw [hr]; congr 1; omega
theorem add_zero (x : Nat) (hx : x < 9218868437227405312) : double.add x 0 = some x := by
  obtain ⟨r, hr, hI, lb, ub⟩ := add_pos x 0 hx (by omega)
  rw [V_zero] at lb ub
  have h1 := lb x (by omega) (by omega)
  have h2 := ub x (by omega)
  rw [hr]; congr 1; omega
theorem zero_add (x : Nat) (hx : x < 9218868437227405312) : double.add 0 x = some x := by
  obtain ⟨r, hr, hI, lb, ub⟩ := add_pos 0 x (by omega) hx
  rw [V_zero] at lb ub
  have h1 := lb x (by omega) (by omega)
  have h2 := ub x (by omega)
  rw [hr]; congr 1; omega
/-- A negative zero added to a word that is no less than nought. -/
theorem negz_add (x : Nat) (hx : x < 9218868437227405312) : double.add 9223372036854775808 x = some x := by
  have px := pl_ge x
  have e : double.add 9223372036854775808 x = some (double.write (.number (if (signed true 0 (-1074 - min (-1074) (pl x)).toNat + signed false (mg x) (pl x - min (-1074) (pl x)).toNat) = 0 then true && false else (signed true 0 (-1074 - min (-1074) (pl x)).toNat + signed false (mg x) (pl x - min (-1074) (pl x)).toNat) < 0) (signed true 0 (-1074 - min (-1074) (pl x)).toNat + signed false (mg x) (pl x - min (-1074) (pl x)).toNat).natAbs (min (-1074) (pl x)))) := by
    unfold Format.add
    have r0 := read_at true 0 (by omega)
    rw [word_true, Nat.add_zero] at r0
    rw [r0, show double.read x = _ from read_at false x hx]
    rfl
  have s2 := scale_V x (min (-1074) (pl x)) (by omega) (by omega)
  rw [signed_eq, signed_eq] at e
  simp only [Bool.false_eq_true, if_false, if_true, Nat.zero_mul] at e
  generalize hB : mg x * 2 ^ (pl x - min (-1074) (pl x)).toNat = C at *
  have e1 : (-((0 : Nat) : Int) + ((C : Nat) : Int)).natAbs = C := by omega
  have e2 : (if (-((0 : Nat) : Int) + ((C : Nat) : Int)) = 0 then true && false else decide ((-((0 : Nat) : Int) + ((C : Nat) : Int)) < 0)) = false := by
    split
    · rfl
    · simp
  rw [e1, e2, write_rw, word_false] at e
  rw [e]
  have h1 := rw_ge C (min (-1074) (pl x)) (by omega) x (by omega) (by rw [s2]; exact Nat.le_refl _)
  have h2 := rw_le_of C (min (-1074) (pl x)) (by omega) x (by rw [s2]; exact Nat.le_refl _)
  congr 1; omega

/-- Between two neighbours. -/
theorem V_floor (T : Nat) : ∃ z, V z ≤ T ∧ T < V (z + 1) := by
  induction T with
  | zero => exact ⟨0, by rw [V_zero]; exact Nat.le_refl _, by rw [V_gap 0, V_zero]; unfold gap; have := Nat.two_pow_pos (0 / 4503599627370496 - 1); omega⟩
  | succ T ih =>
    obtain ⟨z, h1, h2⟩ := ih
    by_cases h : T + 1 < V (z + 1)
    · exact ⟨z, by omega, h⟩
    · exact ⟨z + 1, by omega, by have := V_lt_succ (z + 1); omega⟩

/-- Quotients of small integers. -/
def qi (k d : Nat) : Nat := divW (fi k) (fi d)
theorem qi_near (k d : Nat) (hk : k ≤ 131072) (hd : d ≤ 131072) (hd0 : 1 ≤ d) : double.div (fi k) (fi d) = some (qi k d) ∧ (∀ z, z ≤ 9218868437227405312 → V z * d ≤ k * 2 ^ UE → z ≤ qi k d) ∧ (∀ z, k * 2 ^ UE ≤ V z * d → qi k d ≤ z) := by
  obtain ⟨v0, b0⟩ := fi_V k hk
  obtain ⟨v1, b1⟩ := fi_V d hd
  have hp := Nat.two_pow_pos UE
  have hne : fi d ≠ 0 := by
    intro h
    rw [h, V_zero] at v1
    rcases Nat.mul_eq_zero.1 v1.symm with h | h <;> omega
  obtain ⟨r, hr, hn⟩ := div_near (fi k) (fi d) (by omega) (by omega) hne
  have hr0 := hr false
  rw [word_false, word_false] at hr0
  have e : qi k d = r := by unfold qi divW; rw [hr0]; rfl
  rw [e]
  rw [v0, v1] at hn
  refine ⟨hr0, fun z hz h => hn.lb z hz ?_, fun z h => hn.ub z ?_⟩
  · rw [← Nat.mul_assoc]; exact Nat.mul_le_mul_right _ h
  · rw [← Nat.mul_assoc]; exact Nat.mul_le_mul_right _ h
theorem qi_le_one (k d : Nat) (hk : k ≤ d) (hd : d ≤ 131072) (hd0 : 1 ≤ d) : qi k d ≤ 4607182418800017408 := by
  refine (qi_near k d (by omega) hd hd0).2.2 4607182418800017408 ?_
  rw [V_ONE, Nat.mul_comm (2 ^ UE)]
  exact Nat.mul_le_mul_right _ hk
theorem qi_mono (k k' d : Nat) (hk : k ≤ k') (hk' : k' ≤ 131072) (hd : d ≤ 131072) (hd0 : 1 ≤ d) : qi k d ≤ qi k' d := by
  by_cases he : k = k'
  · subst he; exact Nat.le_refl _
  obtain ⟨_, _, ub⟩ := qi_near k d (by omega) hd hd0
  obtain ⟨_, lb', _⟩ := qi_near k' d hk' hd hd0
  have hU := UE_eq
  have hdp : 0 < d := by omega
  obtain ⟨z, z1, z2⟩ := V_floor (k' * 2 ^ UE / d)
  have t1 := Nat.div_mul_le_self (k' * 2 ^ UE) d
  have t2 : k' * 2 ^ UE < (k' * 2 ^ UE / d + 1) * d := by
    have := Nat.div_add_mod (k' * 2 ^ UE) d
    have := Nat.mod_lt (k' * 2 ^ UE) hdp
    rw [Nat.add_mul, Nat.one_mul, Nat.mul_comm (k' * 2 ^ UE / d) d]; omega
  have hz1 : V z * d ≤ k' * 2 ^ UE := Nat.le_trans (Nat.mul_le_mul_right _ z1) t1
  have hzI : z ≤ 9218868437227405312 := by
    obtain ⟨v1, b1⟩ := fi_V k' hk'
    have h1 : V z ≤ k' * 2 ^ UE := Nat.le_trans z1 (Nat.div_le_self _ _)
    rw [← v1] at h1
    have := V_le_iff.1 h1
    omega
  have hzB : 4503599627370496 ≤ z := by
    have h1 : V 4503599627370496 ≤ k' * 2 ^ UE / d := by
      rw [Nat.le_div_iff_mul_le hdp]
      have h2 : V 4503599627370496 = 4503599627370496 := by
        have := V_at 0 4503599627370496 (.inl rfl) (by omega)
        rw [Nat.zero_mul, Nat.zero_add, Nat.pow_zero, Nat.mul_one] at this; exact this
      rw [h2]
      have h3 : 2 ^ 70 ≤ 2 ^ UE := Nat.pow_le_pow_right (by omega) (by omega)
      have e70 : (2 : Nat) ^ 70 = 1180591620717411303424 := by decide
      have h4 : 4503599627370496 * d ≤ 4503599627370496 * 131072 := Nat.mul_le_mul_left _ hd
      have h5 : 1 * 2 ^ UE ≤ k' * 2 ^ UE := Nat.mul_le_mul_right _ (by omega)
      omega
    have := V_le_iff.1 (show V 4503599627370496 ≤ V z by
      apply Nat.le_of_not_lt
      intro hlt
      have h6 : z + 1 ≤ 4503599627370496 := by
        have := V_mono (show z + 1 ≤ z + 1 by omega)
        apply Nat.le_of_not_lt
        intro h7
        have := V_mono (show 4503599627370496 ≤ z by omega)
        omega
      have := V_mono h6
      omega)
    exact this
  have hle : qi k d ≤ z := by
    apply ub
    apply Nat.le_of_not_lt
    intro hlt
    have hg := gap_V z hzB
    have hs := V_gap z
    have h1 : k' * 2 ^ UE < (V z + gap z) * d := by
      have : (k' * 2 ^ UE / d + 1) * d ≤ (V z + gap z) * d := Nat.mul_le_mul_right _ (by omega)
      omega
    have h2 : gap z * 4503599627370496 * d ≤ V z * d := Nat.mul_le_mul_right _ hg
    have h3 : gap z * d * 4503599627370496 < 131072 * 2 ^ UE := by
      have e1 : gap z * 4503599627370496 * d = gap z * d * 4503599627370496 := Nat.mul_right_comm _ _ _
      have : k * 2 ^ UE ≤ 131072 * 2 ^ UE := Nat.mul_le_mul_right _ (by omega)
      omega
    have h4 : gap z * d < 2 ^ UE := by omega
    have h5 : (k + 1) * 2 ^ UE ≤ k' * 2 ^ UE := Nat.mul_le_mul_right _ (by omega)
    rw [Nat.add_mul] at h1
    rw [Nat.add_mul, Nat.one_mul] at h5
    omega
  exact Nat.le_trans hle (lb' z hzI hz1)

/-- Doubling a step. -/
theorem dbl_step (x : Nat) (hx : x < 9218868437227405312) : double.mul x 4611686018427387904 = some (mulW x 4611686018427387904) ∧ mulW x 4611686018427387904 ≤ 9218868437227405312 ∧ (0 < x → x < mulW x 4611686018427387904) := by
  obtain ⟨r, hr, hn⟩ := mul_near x 4611686018427387904 hx (by omega)
  have e : mulW x 4611686018427387904 = r := by unfold mulW; rw [hr]; rfl
  rw [e]
  refine ⟨hr, hn.le, fun h0 => ?_⟩
  have : x + 1 ≤ r := hn.lb (x + 1) (by omega) (by
    rw [V_TWO, ← Nat.mul_assoc, Nat.mul_comm (V x) 2]
    apply Nat.mul_le_mul_right
    rw [V_gap]
    by_cases hb : 4503599627370496 ≤ x
    · have := gap_V x hb; omega
    · have h1 : gap x = 1 := by unfold gap; rw [show x / 4503599627370496 - 1 = 0 by omega, Nat.pow_zero]
      have h2 := V_strict (show 0 < x by omega)
      omega)
  omega

end Go.Proofs.Qxb6615185a
