/-
  DERIVED. Seat b6615185a: the plain facts on the count, the search's function and its end. Nothing is walked here.
-/
import Derived.Test.Qxb6615185aWalk4
namespace Go.Proofs.Qxb6615185a
open Go.RowKit
open Ieee (double Datum)
set_option linter.unusedVariables false

theorem nan_word (w : Nat) (h : (9218868437227405312 < w ∧ w < 9223372036854775808) ∨ (9223372036854775808 + 9218868437227405312 < w ∧ w < 2 * 9223372036854775808)) : IsNaN w := by
  refine ⟨(w / 9223372036854775808 % 2 == 1), w % 9223372036854775808 - 9218868437227405312, ?_⟩
  unfold Ieee.Format.read
  rw [dbl_sw, dbl_b, dbl_ir, dbl_lp]
  simp only []
  rw [if_neg (by omega), if_neg (by omega), if_neg (by omega)]
/-- A word with its sign set is not above one without. -/
theorem neg_word (r c : Nat) (hr : r ≤ 9218868437227405312) (hc : c < 9218868437227405312) : double.order (9223372036854775808 + r) c = some .lt ∨ (double.order (9223372036854775808 + r) c = some .eq ∧ r = 0 ∧ c = 0) := by
  have ec : double.read c = .number false (mg c) (pl c) := read_at false c hc
  by_cases hI : r = 9218868437227405312
  · left
    have e := read_inf true
    rw [word_true, ← hI] at e
    unfold Ieee.Format.order; rw [e, ec]; rfl
  · have e := read_at true r (by omega)
    rw [word_true] at e
    unfold Ieee.Format.order
    rw [e, ec]
    show some (compare (Ieee.signed true (mg r) (pl r - min (pl r) (pl c)).toNat) (Ieee.signed false (mg c) (pl c - min (pl r) (pl c)).toNat)) = _ ∨ (some (compare (Ieee.signed true (mg r) (pl r - min (pl r) (pl c)).toNat) (Ieee.signed false (mg c) (pl c - min (pl r) (pl c)).toNat)) = _ ∧ _)
    rw [signed_eq, signed_eq]
    simp only [Bool.false_eq_true, if_false, if_true]
    have p1 := Nat.two_pow_pos (pl r - min (pl r) (pl c)).toNat
    have p2 := Nat.two_pow_pos (pl c - min (pl r) (pl c)).toNat
    by_cases h0 : r = 0 ∧ c = 0
    · right
      rw [(mg_zero r).2 h0.1, (mg_zero c).2 h0.2, Nat.zero_mul, Nat.zero_mul]
      exact ⟨by rw [cmpI_eq (by omega)], h0⟩
    · left
      have : 0 < mg r * 2 ^ (pl r - min (pl r) (pl c)).toNat ∨ 0 < mg c * 2 ^ (pl c - min (pl r) (pl c)).toNat := by
        by_cases hr0 : r = 0
        · right; exact Nat.mul_pos (Nat.pos_of_ne_zero (fun h => by have := (mg_zero c).1 h; omega)) p2
        · left; exact Nat.mul_pos (Nat.pos_of_ne_zero (fun h => by have := (mg_zero r).1 h; omega)) p1
      rw [cmpI_lt (by omega)]

theorem word_cases (w : Nat) (h : w < 2 * 9223372036854775808) : w ≤ 9218868437227405312 ∨ IsNaN w ∨ ∃ r, r ≤ 9218868437227405312 ∧ w = 9223372036854775808 + r := by
  by_cases h1 : w ≤ 9218868437227405312
  · exact .inl h1
  · by_cases h2 : w < 9223372036854775808
    · exact .inr (.inl (nan_word w (.inl ⟨by omega, h2⟩)))
    · by_cases h3 : w ≤ 9223372036854775808 + 9218868437227405312
      · exact .inr (.inr ⟨w - 9223372036854775808, by omega, by omega⟩)
      · exact .inr (.inl (nan_word w (.inr ⟨by omega, h⟩)))

theorem ge_word (w c : Nat) (h : w < 2 * 9223372036854775808) (hc : c < 9218868437227405312) (hc0 : 1 ≤ c) (hg : geB w c = true) : c ≤ w ∧ w ≤ 9218868437227405312 := by
  rcases word_cases w h with h1 | h1 | ⟨r, h1, rfl⟩
  · rw [geB_pos w c h1 (by omega)] at hg; exact ⟨by simpa using hg, h1⟩
  · unfold geB at hg; rw [order_nan w c h1] at hg; simp at hg
  · unfold geB at hg
    rcases neg_word r c h1 hc with e | ⟨e, _, e2⟩
    · rw [e] at hg; simp at hg
    · omega
theorem gt_word (w : Nat) (h : w < 2 * 9223372036854775808) (hg : (double.order w 0 == some .gt) = true) : 0 < w ∧ w ≤ 9218868437227405312 := by
  rcases word_cases w h with h1 | h1 | ⟨r, h1, rfl⟩
  · rw [gtB_pos w 0 h1 (by omega)] at hg; exact ⟨by simpa using hg, h1⟩
  · rw [order_nan w 0 h1] at hg; simp at hg
  · rcases neg_word r 0 h1 (by omega) with e | ⟨e, _, _⟩ <;> rw [e] at hg <;> simp at hg
theorem eq_word (w c : Nat) (h : w < 2 * 9223372036854775808) (hc : c < 9218868437227405312) (hg : (double.order w c != some .eq) = false) : w = c ∨ (w = 9223372036854775808 ∧ c = 0) := by
  have hg' : double.order w c = some .eq := by simpa using hg
  rcases word_cases w h with h1 | h1 | ⟨r, h1, rfl⟩
  · rw [order_pos w c h1 (by omega)] at hg'
    left
    rcases Nat.lt_trichotomy w c with e | e | e
    · rw [cmpN_lt e] at hg'; simp at hg'
    · exact e
    · rw [cmpN_gt e] at hg'; simp at hg'
  · rw [order_nan w c h1] at hg'; cases hg'
  · rcases neg_word r c h1 hc with e | ⟨e, e1, e2⟩
    · rw [e] at hg'; simp at hg'
    · right; omega
theorem self_word (g : Nat) (h : g < 2 * 9223372036854775808) (hg : (double.order g g != some .eq) = false) : g ≤ 9218868437227405312 ∨ (9223372036854775808 ≤ g ∧ g ≤ 9223372036854775808 + 9218868437227405312) := by
  rcases word_cases g h with h1 | h1 | ⟨r, h1, rfl⟩
  · exact .inl h1
  · have hg' : double.order g g = some .eq := by simpa using hg
    rw [order_nan g g h1] at hg'; cases hg'
  · exact .inr (by omega)
def leB (x y : Nat) : Bool := double.order x y == some .lt || double.order x y == some .eq
theorem leB_pos (x y : Nat) (hx : x ≤ 9218868437227405312) (hy : y ≤ 9218868437227405312) : leB x y = decide (x ≤ y) := by
  unfold leB
  rw [order_pos x y hx hy]
  rcases Nat.lt_trichotomy x y with h | h | h
  · rw [cmpN_lt h]; simp; omega
  · rw [cmpN_eq h]; simp; omega
  · rw [cmpN_gt h]; simp; omega

/-- What the law's own premise says. -/
structure Dom (xs : List Nat) (t scale p R guess : Nat) : Prop where
  t1 : 3110860544497550640 ≤ t
  t2 : t ≤ 6103021453049119613
  s1 : 3110860544497550640 ≤ scale
  s2 : scale ≤ 6103021453049119613
  p1 : 0 < p
  p2 : p < 4607182418800017408
  r : R = 0 ∨ R = 9223372036854775808 ∨ R = 4607182418800017408
  g : guess ≤ 9218868437227405312 ∨ (9223372036854775808 ≤ guess ∧ guess ≤ 9223372036854775808 + 9218868437227405312)
  xs : ∀ x ∈ xs, 3110860544497550640 ≤ x ∧ x ≤ 6103021453049119613

/-! ### The count grows with the allocation -/

theorem mul_le_inf (x y : Nat) (hx : x < 9218868437227405312) (hy : y < 9218868437227405312) : double.mul x y = some (mulW x y) ∧ mulW x y ≤ 9218868437227405312 := by
  obtain ⟨r, hr, hn⟩ := mul_near x y hx hy
  have e : mulW x y = r := by unfold mulW; rw [hr]; rfl
  rw [e]; exact ⟨hr, hn.le⟩
theorem cnt_mono (xs : List Nat) (a b t : Nat) (hb : b < 9218868437227405312) (hab : a ≤ b) (ht : t ≤ 9218868437227405312) (hx : ∀ x ∈ xs, x < 9218868437227405312) : cntL xs a t ≤ cntL xs b t := by
  induction xs with
  | nil => exact Nat.le_refl _
  | cons x xs ih =>
    have i := ih (fun y hy => hx y (by simp [hy]))
    have hxI := hx x (by simp)
    unfold cntL at i ⊢
    have m1 := (mul_le_inf a x (by omega) hxI).2
    have m2 := (mul_le_inf b x hb hxI).2
    obtain ⟨r, r', h1, h2, h3⟩ := mul_mono a b x hb hxI hab
    have e1 : mulW a x = r := by unfold mulW; rw [h1]; rfl
    have e2 : mulW b x = r' := by unfold mulW; rw [h2]; rfl
    simp only [List.filter_cons]
    rw [geB_pos _ _ m1 ht, geB_pos _ _ m2 ht]
    by_cases g1 : t ≤ mulW a x
    · rw [decide_eq_true g1, decide_eq_true (show t ≤ mulW b x by omega), if_pos rfl, if_pos rfl]
      simp only [List.length_cons]; omega
    · rw [decide_eq_false g1]
      by_cases g2 : t ≤ mulW b x
      · rw [decide_eq_true g2, if_pos rfl, if_neg (by simp)]; simp only [List.length_cons]; omega
      · rw [decide_eq_false g2, if_neg (by simp)]; exact i
theorem cnt_zero (xs : List Nat) (t : Nat) (ht : 1 ≤ t) (htI : t ≤ 9218868437227405312) (hx : ∀ x ∈ xs, x < 9218868437227405312) : cntL xs 0 t = 0 := by
  unfold cntL
  rw [List.length_eq_zero_iff, List.filter_eq_nil_iff]
  intro x hxm
  have hxI := hx x hxm
  have e : mulW 0 x = 0 := by
    obtain ⟨r, hr, hn⟩ := mul_near 0 x (by omega) hxI
    have e1 : mulW 0 x = r := by unfold mulW; rw [hr]; rfl
    rw [e1]
    have := hn.ub 0 (by rw [V_zero]; simp)
    omega
  rw [e, geB_pos 0 t (by omega) htI]
  simp; omega

/-- Whether an allocation reaches p. -/
def reachB (xs : List Nat) (t ri p a : Nat) : Bool := decide (p ≤ qi (ri + cntL xs a t) (xs.length + 1))

theorem short_sign (xs : List Nat) (t ri p a : Nat) (hlen : xs.length ≤ 65536) (hri : ri ≤ 1) (hp : p < 4607182418800017408) : ge0 (shortW xs t ri p a) = reachB xs t ri p a ∧ lt0 (shortW xs t ri p a) = !reachB xs t ri p a ∧ FinW (shortW xs t ri p a) := by
  have hc := cnt_le xs a t
  have hq := qi_le_one (ri + cntL xs a t) (xs.length + 1) (by omega) (by omega) (by omega)
  unfold shortW reachB
  by_cases h : p ≤ qi (ri + cntL xs a t) (xs.length + 1)
  · rw [decide_eq_true h]
    obtain ⟨r, hr, hI, _, ub⟩ := sub_pos (qi (ri + cntL xs a t) (xs.length + 1)) p (by omega) (by omega) h
    have e : subW (qi (ri + cntL xs a t) (xs.length + 1)) p = r := by unfold subW; rw [hr]; rfl
    have := ub (qi (ri + cntL xs a t) (xs.length + 1)) (by omega)
    rw [e]
    obtain ⟨g1, g2⟩ := ge0_pos r hI
    exact ⟨g1, g2, fin_pos r (by omega)⟩
  · rw [decide_eq_false h]
    obtain ⟨r, hr, h1, h2⟩ := sub_neg (qi (ri + cntL xs a t) (xs.length + 1)) p (by omega) (by omega) (by omega)
    have e : subW (qi (ri + cntL xs a t) (xs.length + 1)) p = 9223372036854775808 + r := by unfold subW; rw [hr]; rfl
    rw [e]
    obtain ⟨g1, g2⟩ := ge0_neg r h1 (by omega)
    exact ⟨g1, g2, fin_neg r (by omega)⟩

theorem goes_short (xs : List Nat) (t ri p limit : Nat) (hlen : xs.length ≤ 65536) (hri : ri ≤ 1) (hp : p < 4607182418800017408) (ht : t ≤ 9218868437227405312) (hx : ∀ x ∈ xs, x < 9218868437227405312) (hlim : limit < 9218868437227405312) : Goes (shortW xs t ri p) (reachB xs t ri p) limit where
  ge := fun a _ => (short_sign xs t ri p a hlen hri hp).1
  lt := fun a _ => (short_sign xs t ri p a hlen hri hp).2.1
  mono := fun a b hab hb h => by
    unfold reachB at h ⊢
    have h' : p ≤ qi (ri + cntL xs a t) (xs.length + 1) := by simpa using h
    have hc := cnt_mono xs a b t (by omega) hab ht hx
    have hcb := cnt_le xs b t
    have := qi_mono (ri + cntL xs a t) (ri + cntL xs b t) (xs.length + 1) (by omega) (by omega) (by omega) (by omega)
    simp; omega

/-! ### The end of the search, and the first step -/

theorem lim_facts (mx : Nat) (h1 : 3110860544497550640 ≤ mx) (h2 : mx ≤ 6103021453049119613) : double.div 6850974717710472879 mx = some (divW 6850974717710472879 mx) ∧ divW 6850974717710472879 mx < 9214364837600034816 := by
  obtain ⟨r, hr, hn⟩ := div_near 6850974717710472879 mx (by omega) (by omega) (by omega)
  have hr0 := hr false
  rw [word_false, word_false] at hr0
  have e : divW 6850974717710472879 mx = r := by unfold divW; rw [hr0]; rfl
  rw [e]
  refine ⟨hr0, ?_⟩
  have hU := UE_eq
  obtain ⟨z1, v1, -, k1⟩ := V_pow (UE + 499)
  obtain ⟨z2, v2, -, k2⟩ := V_pow (UE - 333)
  obtain ⟨z3, v3, -, k3⟩ := V_pow (UE + 832)
  have k1' := k1 (by omega)
  have k2' := k2 (by omega)
  have k3' := k3 (by omega)
  clear k1 k2 k3
  have a1 : V 6850974717710472879 ≤ 2 ^ (UE + 499) := by rw [← v1]; clear v1 v2 v3; exact V_mono (by omega)
  have a2 : 2 ^ (UE - 333) ≤ V mx := by rw [← v2]; clear v1 v2 v3 a1; exact V_mono (by omega)
  have hz : r ≤ z3 := hn.ub z3 (by
    rw [v3]
    have e1 : 2 ^ (UE + 832) * 2 ^ (UE - 333) = 2 ^ (UE + 499) * 2 ^ UE := by rw [← Nat.pow_add, ← Nat.pow_add]; congr 1
    calc V 6850974717710472879 * 2 ^ UE ≤ 2 ^ (UE + 499) * 2 ^ UE := Nat.mul_le_mul_right _ a1
      _ = 2 ^ (UE + 832) * 2 ^ (UE - 333) := e1.symm
      _ ≤ 2 ^ (UE + 832) * V mx := Nat.mul_le_mul_left _ a2)
  clear a1 a2 v1 v2 v3
  omega
theorem limW_lt (xs : List Nat) (scale : Nat) (hx : ∀ x ∈ xs, 3110860544497550640 ≤ x ∧ x ≤ 6103021453049119613) (hs : scale ≤ 6103021453049119613) : limW xs scale < 9214364837600034816 := by
  unfold limW
  by_cases h : xs.length = 0
  · rw [if_pos h]; omega
  · rw [if_neg h]
    have h1 : maxL xs ≤ 6103021453049119613 := maxL_le xs 6103021453049119613 (fun x hxm => (hx x hxm).2)
    have h2 : 3110860544497550640 ≤ maxL xs := by
      cases xs with
      | nil => exact absurd rfl h
      | cons x xs => exact Nat.le_trans (hx x (by simp)).1 (maxL_ge _ x (by simp))
    have := (lim_facts (maxL xs) h2 h1).2
    omega
theorem fifty_facts (a : Nat) (ha : a < 9218868437227405312) : double.div a 4632233691727265792 = some (divW a 4632233691727265792) ∧ divW a 4632233691727265792 ≤ 9218868437227405312 := by
  obtain ⟨r, hr, hn⟩ := div_near a 4632233691727265792 ha (by omega) (by omega)
  have hr0 := hr false
  rw [word_false, word_false] at hr0
  have e : divW a 4632233691727265792 = r := by unfold divW; rw [hr0]; rfl
  rw [e]; exact ⟨hr0, hn.le⟩
theorem thou_facts (a : Nat) (h1 : 3110860544497550640 ≤ a) (ha : a < 9218868437227405312) : double.div a 4652007308841189376 = some (divW a 4652007308841189376) ∧ divW a 4652007308841189376 ≤ 9218868437227405312 ∧ 0 < divW a 4652007308841189376 := by
  obtain ⟨r, hr, hn⟩ := div_near a 4652007308841189376 ha (by omega) (by omega)
  have hr0 := hr false
  rw [word_false, word_false] at hr0
  have e : divW a 4652007308841189376 = r := by unfold divW; rw [hr0]; rfl
  rw [e]
  refine ⟨hr0, hn.le, ?_⟩
  have hU := UE_eq
  obtain ⟨z1, v1, -, k1⟩ := V_pow (UE + 10)
  obtain ⟨z2, v2, -, k2⟩ := V_pow (UE - 333)
  have k1' := k1 (by omega)
  have k2' := k2 (by omega)
  clear k1 k2
  have a1 : V 4652007308841189376 ≤ 2 ^ (UE + 10) := by rw [← v1]; clear v1 v2; exact V_mono (by omega)
  have a2 : 2 ^ (UE - 333) ≤ V a := by rw [← v2]; clear v1 v2 a1; exact V_mono (by omega)
  have v0 : V 1 = 1 := by
    have := V_at 0 1 (.inl rfl) (by omega)
    rw [Nat.zero_mul, Nat.zero_add, Nat.pow_zero, Nat.mul_one] at this; exact this
  have : 1 ≤ r := hn.lb 1 (by omega) (by
    rw [v0, Nat.one_mul]
    calc V 4652007308841189376 ≤ 2 ^ (UE + 10) := a1
      _ ≤ 2 ^ (UE - 333 + UE) := Nat.pow_le_pow_right (by omega) (by omega)
      _ = 2 ^ (UE - 333) * 2 ^ UE := Nat.pow_add ..
      _ ≤ V a * 2 ^ UE := Nat.mul_le_mul_right _ a2)
  omega

/-- The rest as a number. -/
def riOf (R : Nat) : Nat := if R = 4607182418800017408 then 1 else 0
theorem ri_facts (R : Nat) (hR : R = 0 ∨ R = 9223372036854775808 ∨ R = 4607182418800017408) : riOf R ≤ 1 ∧ SumIs R (riOf R) 0 0 ∧ (∀ m, m ≤ 65536 → double.add R (fi m) = some (fi (riOf R + m))) ∧ (R = 4607182418800017408 → R = fi (riOf R)) := by
  rcases hR with rfl | rfl | rfl
  · have e : riOf 0 = 0 := by unfold riOf; rw [if_neg (by omega)]
    rw [e]
    refine ⟨by omega, ⟨?_, ?_, fun h => by omega⟩, fun m hm => ?_, fun h => by omega⟩
    · rw [Nat.zero_add, fi_zero]; exact zero_add 0 (by omega)
    · rw [Nat.zero_add, fi_one]; exact zero_add 4607182418800017408 (by omega)
    · rw [Nat.zero_add]; exact zero_add (fi m) (by have := (fi_V m (by omega)).2; omega)
  · have e : riOf 9223372036854775808 = 0 := by unfold riOf; rw [if_neg (by omega)]
    rw [e]
    refine ⟨by omega, ⟨?_, ?_, fun h => by omega⟩, fun m hm => ?_, fun h => by omega⟩
    · rw [Nat.zero_add, fi_zero]; exact negz_add 0 (by omega)
    · rw [Nat.zero_add, fi_one]; exact negz_add 4607182418800017408 (by omega)
    · rw [Nat.zero_add]; exact negz_add (fi m) (by have := (fi_V m (by omega)).2; omega)
  · have e : riOf 4607182418800017408 = 1 := by unfold riOf; rw [if_pos rfl]
    rw [e]
    have hone : SumIs 4607182418800017408 1 0 0 := by
      have := sumIs_fi 1 0 0 (by omega)
      rw [Nat.add_zero, fi_one] at this; exact this
    refine ⟨by omega, hone, fun m hm => ?_, fun _ => fi_one.symm⟩
    obtain ⟨v, b⟩ := fi_V m (by omega)
    obtain ⟨v1, b1⟩ := fi_V (1 + m) (by omega)
    obtain ⟨r, hr, hI, lb, ub⟩ := add_pos 4607182418800017408 (fi m) (by omega) (by omega)
    rw [V_ONE] at lb ub
    have e2 : V (fi (1 + m)) = 2 ^ UE + V (fi m) := by rw [v, v1, Nat.add_mul, Nat.one_mul]
    have h1 := lb (fi (1 + m)) (by omega) (by omega)
    have h2 := ub (fi (1 + m)) (by omega)
    rw [hr]; congr 1; omega

end Go.Proofs.Qxb6615185a
