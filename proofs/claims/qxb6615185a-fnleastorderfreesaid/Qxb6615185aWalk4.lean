/-
  DERIVED. Seat b6615185a: the walks of slices.Max, zzLimit, zzNeeded, zzLeastDomain, zzBytes.
-/
import Derived.Test.Qxb6615185aWalk2
namespace Go.Proofs.Qxb6615185a
open Go.RowKit
open Ieee (double Datum)
set_option linter.unusedVariables false

theorem geB_pos (x y : Nat) (hx : x ≤ 9218868437227405312) (hy : y ≤ 9218868437227405312) : geB x y = decide (y ≤ x) := by
  unfold geB
  rw [order_pos x y hx hy]
  rcases Nat.lt_trichotomy x y with h | h | h
  · rw [cmpN_lt h]; simp; omega
  · rw [cmpN_eq h]; simp; omega
  · rw [cmpN_gt h]; simp; omega
theorem gtB_pos (x y : Nat) (hx : x ≤ 9218868437227405312) (hy : y ≤ 9218868437227405312) : (double.order x y == some .gt) = decide (y < x) := by
  rw [order_pos x y hx hy]
  rcases Nat.lt_trichotomy x y with h | h | h
  · rw [cmpN_lt h]; simp; omega
  · rw [cmpN_eq h]; simp; omega
  · rw [cmpN_gt h]; simp; omega
theorem ltB_pos (x y : Nat) (hx : x ≤ 9218868437227405312) (hy : y ≤ 9218868437227405312) : (double.order x y == some .lt) = decide (x < y) := by
  rw [order_pos x y hx hy]
  rcases Nat.lt_trichotomy x y with h | h | h
  · rw [cmpN_lt h]; simp; omega
  · rw [cmpN_eq h]; simp; omega
  · rw [cmpN_gt h]; simp; omega

def RetB (e : Ending) : Prop := ∃ b, e = .returned (.bool b)
theorem retB (b : Bool) : RetB (.returned (.bool b)) := ⟨b, rfl⟩
theorem bytes_any (A : Option Addr) (len cap : Nat) (cut : Int) (v2 v3 v4 v5 v6 : Value) (w : World) (hl : len ≤ maxLen) :
    Calls Try.prog 5 #[.slice A len cap, .int .i64 cut, v2, v3, v4, v5, v6] w fun e w' => RetB e ∧ w = w' := by
  unfold maxLen at hl
  go_enter Try.func5, Try.ntmps5
  go_wp2
  all_goals
    go_ret
    exact ⟨retB _, rfl⟩

/-- The greatest of a list. -/
def maxL (xs : List Nat) : Nat := xs.foldl max 0
theorem maxL_snoc (xs : List Nat) (k : Nat) (hk : k < xs.length) : maxL (xs.take (k + 1)) = max (maxL (xs.take k)) (xs.getD k 0) := by
  unfold maxL
  rw [List.take_succ_eq_append_getElem hk, List.foldl_append, List.getD_eq_getElem?_getD, List.getElem?_eq_getElem hk]; rfl
theorem maxL_le (xs : List Nat) (B : Nat) (h : ∀ x ∈ xs, x ≤ B) : maxL xs ≤ B := by
  unfold maxL
  have : ∀ (l : List Nat) (i : Nat), i ≤ B → (∀ x ∈ l, x ≤ B) → l.foldl max i ≤ B := by
    intro l
    induction l with
    | nil => intro i hi _; exact hi
    | cons a l ih => intro i hi hl; exact ih (max i a) (by have := hl a (by simp); omega) (fun x hx => hl x (by simp [hx]))
  exact this xs 0 (Nat.zero_le _) h
theorem maxL_ge (xs : List Nat) (x : Nat) (h : x ∈ xs) : x ≤ maxL xs := by
  unfold maxL
  have mono : ∀ (l : List Nat) (i : Nat), i ≤ l.foldl max i := by
    intro l
    induction l with
    | nil => intro i; exact Nat.le_refl _
    | cons a l ih => intro i; have := ih (max i a); simp only [List.foldl_cons]; omega
  have : ∀ (l : List Nat) (i : Nat), x ∈ l → x ≤ l.foldl max i := by
    intro l
    induction l with
    | nil => intro i h; cases h
    | cons a l ih =>
      intro i h
      simp only [List.foldl_cons]
      rcases List.mem_cons.1 h with rfl | h
      · have := mono l (max i x); omega
      · exact ih _ h
  exact this xs 0 h
theorem getD_le (xs : List Nat) (B j : Nat) (h : ∀ x ∈ xs, x ≤ B) : xs.getD j 0 ≤ B := by
  rw [List.getD_eq_getElem?_getD]
  cases hj : xs[j]? with
  | none => exact Nat.zero_le _
  | some v => exact h v (List.mem_of_getElem? hj)

set_option maxHeartbeats 400000 in
theorem max_any (b o len cap : Nat) (xs : List Nat) (w : World) (hl : xs.length = len) (hlen : len ≤ 65536) (h1 : 1 ≤ len) (hx : ∀ x ∈ xs, x ≤ 9218868437227405312) (hc : ∀ j, j < len → w.cell? ⟨b, o + j, none⟩ = some (.float .f64 (xs.getD j 0))) :
    Calls Try.prog 17 #[.slice (some ⟨b, o, none⟩) len cap] w fun e w' => e = .returned (.float .f64 (maxL xs)) ∧ w = w' := by
  have HL : Hid _ := hl
  have HX : Hid _ := hx
  clear hl hx
  have hc0 : w.cell? ⟨b, o, none⟩ = some (.float .f64 (xs.getD 0 0)) := hc 0 (by omega)
  obtain ⟨x0, hx0⟩ : ∃ x, x = xs.getD 0 0 := ⟨_, rfl⟩
  rw [← hx0] at hc0
  have hm1 : Hid (maxL (xs.take 1) = x0) := by
    show _ = _
    rw [maxL_snoc xs 0 (by rw [HL.out]; omega), ← hx0, List.take_zero]
    show max (maxL []) x0 = x0
    have : maxL [] = 0 := rfl
    rw [this]; omega
  clear hx0
  go_enter Try.func17, Try.ntmps17
  go_wp2
  go_loop [3, 4] (fun m i => ∃ k : Nat, 1 ≤ k ∧ k ≤ len ∧ i = .int .i64 k ∧ m = .float .f64 (maxL (xs.take k))) (fun _ i => len - (intOf i).toNat)
  case atStart => exact ⟨1, by omega, h1, rfl, by rw [hm1.out]⟩
  case round =>
    obtain ⟨k, hk1, hk, rfl, rfl⟩ := hrel
    by_cases hlt : k < len
    · have hcell := hc k hlt
      have hs : Hid _ := maxL_snoc xs k (by rw [HL.out]; exact hlt)
      have b1 := maxL_le (xs.take k) 9218868437227405312 (fun x hx => HX.out x (List.mem_of_mem_take hx))
      have b2 := getD_le xs 9218868437227405312 k HX.out
      have k1 := fun ts ty W => run_max_pos (maxL (xs.take k)) (xs.getD k 0) b1 b2 ts ty W
      clear hc b1 b2
      obtain ⟨x, hx⟩ : ∃ x, x = xs.getD k 0 := ⟨_, rfl⟩
      rw [← hx] at hcell hs
      simp only [← hx] at k1
      clear hx
      go_wp2
      go_round
      case rel => exact ⟨k + 1, by omega, by omega, by go_num, by rw [hs.out]⟩
      case measure => simp [intOf]; omega
    · clear hc
      obtain rfl : k = len := by omega
      have e : xs.take k = xs := by rw [← HL.out, List.take_length]
      rw [e]
      go_wp2
      go_ret
      exact ⟨rfl, rfl⟩

/-- The end of the search. -/
def limW (xs : List Nat) (scale : Nat) : Nat := if xs.length = 0 then scale else min (max scale (divW 6850974717710472879 (maxL xs))) 9218868437227405311

set_option maxHeartbeats 1000000 in
theorem limit_some (b o len cap scale : Nat) (xs : List Nat) (w : World) (hl : xs.length = len) (hlen : len ≤ 65536) (h1 : 1 ≤ len) (hx : ∀ x ∈ xs, x ≤ 9218868437227405312) (hc : ∀ j, j < len → w.cell? ⟨b, o + j, none⟩ = some (.float .f64 (xs.getD j 0)))
    (hs : scale < 9218868437227405312) (hq : double.div 6850974717710472879 (maxL xs) = some (divW 6850974717710472879 (maxL xs))) (hqI : divW 6850974717710472879 (maxL xs) ≤ 9218868437227405312) :
    Calls Try.prog 10 #[.slice (some ⟨b, o, none⟩) len cap, .float .f64 scale] w fun e w' => e = .returned (.float .f64 (limW xs scale)) ∧ w = w' := by
  have hf := fmt64
  have HL : Hid _ := hl
  have HX : Hid _ := hx
  have hq' := run_div hq
  clear hl hx hq
  have hc0 : w.cell? ⟨b, o, none⟩ = some (.float .f64 (xs.getD 0 0)) := hc 0 (by omega)
  obtain ⟨x0, hx0⟩ : ∃ x, x = xs.getD 0 0 := ⟨_, rfl⟩
  rw [← hx0] at hc0
  have hm1 : Hid (maxL (xs.take 1) = x0) := by
    show _ = _
    rw [maxL_snoc xs 0 (by rw [HL.out]; omega), ← hx0, List.take_zero]
    show max (maxL []) x0 = x0
    have : maxL [] = 0 := rfl
    rw [this]; omega
  clear hx0
  have hne : ((len : Int) == 0) = false := by simp; omega
  go_enter Try.func10, Try.ntmps10
  go_wp2
  go_loop [5, 6] (fun m i => ∃ k : Nat, 1 ≤ k ∧ k ≤ len ∧ i = .int .i64 k ∧ m = .float .f64 (maxL (xs.take k))) (fun _ i => len - (intOf i).toNat)
  case atStart => exact ⟨1, by omega, h1, rfl, by rw [hm1.out]⟩
  case round =>
    obtain ⟨k, hk1, hk, rfl, rfl⟩ := hrel
    by_cases hlt : k < len
    · have hcell := hc k hlt
      have hsn : Hid _ := maxL_snoc xs k (by rw [HL.out]; exact hlt)
      have b1 := maxL_le (xs.take k) 9218868437227405312 (fun x hx => HX.out x (List.mem_of_mem_take hx))
      have b2 := getD_le xs 9218868437227405312 k HX.out
      have k1 := gtB_pos (xs.getD k 0) (maxL (xs.take k)) b2 b1
      clear hc b1 b2 hq'
      obtain ⟨x, hx⟩ : ∃ x, x = xs.getD k 0 := ⟨_, rfl⟩
      rw [← hx] at hcell hsn k1
      clear hx
      by_cases hg : maxL (xs.take k) < x
      · rw [decide_eq_true hg] at k1
        have HG : Hid _ := hg
        clear hg
        go_wp2
        go_round
        case rel => exact ⟨k + 1, by omega, by omega, by go_num, by rw [hsn.out, Nat.max_eq_right (Nat.le_of_lt HG.out)]⟩
        case measure => simp [intOf]; omega
      · rw [decide_eq_false hg] at k1
        have HG : Hid _ := hg
        clear hg
        go_wp2
        go_round
        case rel => exact ⟨k + 1, by omega, by omega, by go_num, by rw [hsn.out, Nat.max_eq_left (Nat.le_of_not_lt HG.out)]⟩
        case measure => simp [intOf]; omega
    · clear hc
      obtain rfl : k = len := by omega
      have e : xs.take k = xs := by rw [← HL.out, List.take_length]
      rw [e]
      obtain ⟨q, hqq⟩ : ∃ q, q = divW 6850974717710472879 (maxL xs) := ⟨_, rfl⟩
      have HLim : Hid (limW xs scale = min (max scale q) 9218868437227405311) := by show _ = _; unfold limW; rw [if_neg (by rw [HL.out]; omega), hqq]
      rw [← hqq] at hqI
      simp only [← hqq] at hq'
      clear hqq
      have k2 := ltB_pos q scale hqI (by omega)
      by_cases hlt2 : q < scale
      · rw [decide_eq_true hlt2] at k2
        have k3 := gtB_pos scale 9218868437227405311 (by omega) (by omega)
        rw [decide_eq_false (by omega)] at k3
        go_wp2
        go_ret
        exact ⟨by rw [HLim.out, Nat.max_eq_left (by omega), Nat.min_eq_left (by omega)]; rfl, rfl⟩
      · rw [decide_eq_false hlt2] at k2
        have k3 := gtB_pos q 9218868437227405311 hqI (by omega)
        by_cases hgt : 9218868437227405311 < q
        · rw [decide_eq_true hgt] at k3
          go_wp2
          go_ret
          exact ⟨by rw [HLim.out, Nat.max_eq_right (by omega), Nat.min_eq_right (by omega)]; rfl, rfl⟩
        · rw [decide_eq_false hgt] at k3
          go_wp2
          go_ret
          exact ⟨by rw [HLim.out, Nat.max_eq_right (by omega), Nat.min_eq_left (by omega)]; rfl, rfl⟩

theorem limit_nil (A : Option Addr) (cap scale : Nat) (w : World) :
    Calls Try.prog 10 #[.slice A 0 cap, .float .f64 scale] w fun e w' => e = .returned (.float .f64 (limW [] scale)) ∧ w = w' := by
  go_enter Try.func10, Try.ntmps10
  go_wp2
  go_ret
  exact ⟨rfl, rfl⟩

theorem count_nil (A : Option Addr) (cap a t : Nat) (w : World) :
    Calls Try.prog 11 #[.slice A 0 cap, .float .f64 a, .float .f64 t] w fun e w' => e = .returned (.int .i64 (cntL [] a t)) ∧ w = w' := by
  go_enter Try.func11, Try.ntmps11
  go_wp2
  go_loop [7, 8] (fun n i => i = .int .i64 0 ∧ n = .int .i64 0) (fun _ _ => 0)
  case atStart => exact ⟨rfl, rfl⟩
  case round =>
    obtain ⟨rfl, rfl⟩ := hrel
    go_wp2
    go_ret
    exact ⟨rfl, rfl⟩

/-! ### zzNeeded -/

/-- The least number that reaches p, searched from m on; -1: none. -/
def needFrom (n p ri : Nat) : Nat → Nat → Int
  | 0, _ => -1
  | f + 1, m => if p ≤ qi (ri + m) (n + 1) then (m : Int) else needFrom n p ri f (m + 1)
def need (n p ri : Nat) : Int := needFrom n p ri (n + 1) 0
theorem needFrom_spec (n p ri : Nat) : ∀ f m, m + f = n + 1 → (∀ j, j < m → ¬ p ≤ qi (ri + j) (n + 1)) →
    (needFrom n p ri f m = -1 ∧ ∀ j, j ≤ n → ¬ p ≤ qi (ri + j) (n + 1)) ∨ ∃ j : Nat, needFrom n p ri f m = j ∧ j ≤ n ∧ p ≤ qi (ri + j) (n + 1) ∧ ∀ i, i < j → ¬ p ≤ qi (ri + i) (n + 1) := by
  intro f
  induction f with
  | zero => intro m hm hb; exact .inl ⟨rfl, fun j hj => hb j (by omega)⟩
  | succ f ih =>
    intro m hm hb
    rw [needFrom]
    by_cases h : p ≤ qi (ri + m) (n + 1)
    · rw [if_pos h]; exact .inr ⟨m, rfl, by omega, h, hb⟩
    · rw [if_neg h]
      exact ih (m + 1) (by omega) (fun j hj => by
        by_cases e : j = m
        · subst e; exact h
        · exact hb j (by omega))
theorem need_spec (n p ri : Nat) : (need n p ri = -1 ∧ ∀ j, j ≤ n → ¬ p ≤ qi (ri + j) (n + 1)) ∨ ∃ j : Nat, need n p ri = j ∧ j ≤ n ∧ p ≤ qi (ri + j) (n + 1) ∧ ∀ i, i < j → ¬ p ≤ qi (ri + i) (n + 1) :=
  needFrom_spec n p ri (n + 1) 0 (by omega) (fun j hj => absurd hj (Nat.not_lt_zero _))

set_option maxHeartbeats 1000000 in
theorem needed_any (n p R ri : Nat) (w : World) (hn : n ≤ 65536) (hri : ri ≤ 1) (hp : p < 9218868437227405312) (hR : ∀ m, m ≤ n → double.add R (fi m) = some (fi (ri + m))) :
    Calls Try.prog 9 #[.int .i64 n, .float .f64 p, .float .f64 R] w fun e w' => e = .returned (.int .i64 (need n p ri)) ∧ w = w' := by
  have hf := fmt64
  have hfo := foi (n + 1)
  rw [show ((n + 1 : Nat) : Int) = (n : Int) + 1 by omega] at hfo
  have HR : Hid _ := hR
  clear hR
  go_enter Try.func9, Try.ntmps9
  go_wp2
  go_loop [8] (fun i => ∃ m : Nat, m ≤ n + 1 ∧ i = .int .i64 m ∧ Hid (needFrom n p ri (n + 1 - m) m = need n p ri)) (fun i => n + 1 - (intOf i).toNat)
  case atStart => exact ⟨0, by omega, rfl, rfl⟩
  case round =>
    obtain ⟨m, hm, rfl, hnd⟩ := hrel
    by_cases hle : m ≤ n
    · have k1 := run_add (HR.out m hle)
      have k2 := run_div (qi_near (ri + m) (n + 1) (by omega) (by omega) (by omega)).1
      have k3 := geB_pos (qi (ri + m) (n + 1)) p (by have := qi_le_one (ri + m) (n + 1) (by omega) (by omega) (by omega); omega) (by omega)
      have hfm := foi m
      have hnd' := hnd.out
      rw [show n + 1 - m = (n - m) + 1 by omega, needFrom] at hnd'
      clear hnd
      unfold geB at k3
      by_cases hg : p ≤ qi (ri + m) (n + 1)
      · rw [if_pos hg] at hnd'
        rw [decide_eq_true hg] at k3
        have HN : Hid _ := hnd'
        clear hnd' hg
        go_wp2
        go_ret
        exact ⟨by rw [← HN.out]; rfl, rfl⟩
      · rw [if_neg hg] at hnd'
        rw [decide_eq_false hg] at k3
        have HN : Hid _ := hnd'
        clear hnd' hg
        go_wp2
        go_round
        case rel => exact ⟨m + 1, by omega, by go_num, by rw [show n + 1 - (m + 1) = n - m by omega]; exact HN.out⟩
        case measure => simp [intOf]; omega
    · obtain rfl : m = n + 1 := by omega
      have h2 : need n p ri = -1 := by have := hnd.out; rw [Nat.sub_self, needFrom] at this; exact this.symm
      have HN : Hid _ := h2
      clear h2 hnd
      go_wp2
      go_ret
      exact ⟨by rw [HN.out]; rfl, rfl⟩

end Go.Proofs.Qxb6615185a
