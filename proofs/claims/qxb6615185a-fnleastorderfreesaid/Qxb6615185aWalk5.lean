/-
  DERIVED. Seat b6615185a: the walk of 'zzLeastDomain'; the closure over no ratio.
-/
import Derived.Test.Qxb6615185aPlain5
namespace Go.Proofs.Qxb6615185a
open Go.RowKit
open Ieee (double Datum)
set_option linter.unusedVariables false

def RetS (p : Prop) (e : Ending) : Prop := ∃ b, e = .returned (.bool b) ∧ (b = true → p)
theorem retS_false (p : Prop) : RetS p (.returned (.bool false)) := ⟨false, rfl, fun h => by cases h⟩
theorem retS_true {p : Prop} (b : Bool) (h : p) : RetS p (.returned (.bool b)) := ⟨b, rfl, fun _ => h⟩

def RowOk (xs : List Nat) (k : Nat) : Prop := ∀ j, j < k → 3110860544497550640 ≤ xs.getD j 0 ∧ xs.getD j 0 ≤ 6103021453049119613
theorem rowOk_zero (xs : List Nat) : RowOk xs 0 := fun j hj => absurd hj (Nat.not_lt_zero _)
theorem rowOk_succ (xs : List Nat) (k : Nat) (h : RowOk xs k) (h1 : 3110860544497550640 ≤ xs.getD k 0 ∧ xs.getD k 0 ≤ 6103021453049119613) : RowOk xs (k + 1) := fun j hj => by
  by_cases e : j = k
  · subst e; exact h1
  · exact h j (by omega)
theorem rowOk_all (xs : List Nat) (h : RowOk xs xs.length) : ∀ x ∈ xs, 3110860544497550640 ≤ x ∧ x ≤ 6103021453049119613 := fun x hx => by
  obtain ⟨j, hj⟩ := List.getElem?_of_mem hx
  have := h j (List.getElem?_eq_some_iff.1 hj).1
  rw [List.getD_eq_getElem?_getD, hj] at this
  exact this

/-- The row of ratios in memory; where there is none the address does not matter. -/
def RowAt (w : World) (A : Option Addr) (xs : List Nat) : Prop := xs = [] ∨ ∃ b o, A = some ⟨b, o, none⟩ ∧ ∀ j, j < xs.length → w.cell? ⟨b, o + j, none⟩ = some (.float .f64 (xs.getD j 0))

/-- What the scalar tests say. -/
theorem dom_of (xs : List Nat) (t scale p R guess : Nat) (ht : t < 2 * 9223372036854775808) (hs : scale < 2 * 9223372036854775808) (hp : p < 2 * 9223372036854775808) (hR : R < 2 * 9223372036854775808) (hg : guess < 2 * 9223372036854775808)
    (b1 : geB t 3110860544497550640 = true) (b2 : leB t 6103021453049119613 = true) (b3 : geB scale 3110860544497550640 = true) (b4 : leB scale 6103021453049119613 = true) (b5 : (double.order p 0 == some .gt) = true) (b6 : (double.order p 4607182418800017408 == some .lt) = true)
    (b7 : (double.order R 0 != some .eq) = false ∨ (double.order R 4607182418800017408 != some .eq) = false) (b9 : (double.order guess guess != some .eq) = false) (hx : RowOk xs xs.length) : Dom xs t scale p R guess := by
  obtain ⟨t1, t2⟩ := ge_word t 3110860544497550640 ht (by omega) (by omega) b1
  obtain ⟨s1, s2⟩ := ge_word scale 3110860544497550640 hs (by omega) (by omega) b3
  obtain ⟨p1, p2⟩ := gt_word p hp b5
  rw [leB_pos t 6103021453049119613 t2 (by omega)] at b2
  rw [leB_pos scale 6103021453049119613 s2 (by omega)] at b4
  rw [ltB_pos p 4607182418800017408 p2 (by omega)] at b6
  refine ⟨t1, by simpa using b2, s1, by simpa using b4, p1, by simpa using b6, ?_, self_word guess hg b9, rowOk_all xs hx⟩
  rcases b7 with h | h
  · rcases eq_word R 0 hR (by omega) h with h | h
    · exact .inl h
    · exact .inr (.inl h.1)
  · rcases eq_word R 4607182418800017408 hR (by omega) h with h | h
    · exact .inr (.inr h)
    · omega

set_option maxHeartbeats 4000000 in
set_option maxRecDepth 20000 in
theorem dom_some (b o len cap : Nat) (xs : List Nat) (t scale p R guess : Nat) (w : World) (hl : xs.length = len) (hlen : len ≤ 65536) (hxw : ∀ j, xs.getD j 0 < 2 * 9223372036854775808) (ht : t < 2 * 9223372036854775808) (hs : scale < 2 * 9223372036854775808) (hp : p < 2 * 9223372036854775808) (hR : R < 2 * 9223372036854775808) (hg : guess < 2 * 9223372036854775808)
    (hc : ∀ j, j < len → w.cell? ⟨b, o + j, none⟩ = some (.float .f64 (xs.getD j 0))) :
    Calls Try.prog 6 #[.slice (some ⟨b, o, none⟩) len cap, .float .f64 t, .float .f64 scale, .float .f64 p, .float .f64 R, .float .f64 guess] w fun e w' => RetS (Dom xs t scale p R guess) e ∧ w = w' := by
  have hf := fmt64
  have HT : Hid _ := ht
  have HS0 : Hid _ := hs
  have HP : Hid _ := hp
  have HR : Hid _ := hR
  have HG : Hid _ := hg
  clear ht hs hp hR hg
  have HL : Hid _ := hl
  have HXW : Hid _ := hxw
  clear hl hxw
  by_cases b1 : geB t 3110860544497550640 = true
  case neg =>
    have h' : geB t 3110860544497550640 = false := by simpa using b1
    clear b1
    unfold geB at h'
    go_enter Try.func6, Try.ntmps6
    go_wp2
    go_ret
    exact ⟨retS_false _, rfl⟩
  case pos =>
  have b1' := b1
  unfold geB at b1'
  have Hb1 : Hid _ := b1
  clear b1
  by_cases b2 : leB t 6103021453049119613 = true
  case neg =>
    have h' : leB t 6103021453049119613 = false := by simpa using b2
    clear b2
    unfold leB at h'
    go_enter Try.func6, Try.ntmps6
    go_wp2
    go_ret
    exact ⟨retS_false _, rfl⟩
  case pos =>
  have b2' := b2
  unfold leB at b2'
  have Hb2 : Hid _ := b2
  clear b2
  by_cases b3 : geB scale 3110860544497550640 = true
  case neg =>
    have h' : geB scale 3110860544497550640 = false := by simpa using b3
    clear b3
    unfold geB at h'
    go_enter Try.func6, Try.ntmps6
    go_wp2
    go_ret
    exact ⟨retS_false _, rfl⟩
  case pos =>
  have b3' := b3
  unfold geB at b3'
  have Hb3 : Hid _ := b3
  clear b3
  by_cases b4 : leB scale 6103021453049119613 = true
  case neg =>
    have h' : leB scale 6103021453049119613 = false := by simpa using b4
    clear b4
    unfold leB at h'
    go_enter Try.func6, Try.ntmps6
    go_wp2
    go_ret
    exact ⟨retS_false _, rfl⟩
  case pos =>
  have b4' := b4
  unfold leB at b4'
  have Hb4 : Hid _ := b4
  clear b4
  by_cases b5 : (double.order p 0 == some .gt) = true
  case neg =>
    have h' : (double.order p 0 == some .gt) = false := by simpa using b5
    clear b5
    go_enter Try.func6, Try.ntmps6
    go_wp2
    go_ret
    exact ⟨retS_false _, rfl⟩
  case pos =>
  have b5' := b5
  have Hb5 : Hid _ := b5
  clear b5
  by_cases b6 : (double.order p 4607182418800017408 == some .lt) = true
  case neg =>
    have h' : (double.order p 4607182418800017408 == some .lt) = false := by simpa using b6
    clear b6
    go_enter Try.func6, Try.ntmps6
    go_wp2
    go_ret
    exact ⟨retS_false _, rfl⟩
  case pos =>
  have b6' := b6
  have Hb6 : Hid _ := b6
  clear b6
  by_cases b7 : (double.order R 0 != some .eq) = true ∧ (double.order R 4607182418800017408 != some .eq) = true
  case pos =>
    obtain ⟨b7a, b7b⟩ := b7
    go_enter Try.func6, Try.ntmps6
    go_wp2
    go_ret
    exact ⟨retS_false _, rfl⟩
  case neg =>
  by_cases b9 : (double.order guess guess != some .eq) = true
  case pos =>
    by_cases b7a : (double.order R 0 != some .eq) = true
    · have b7b : (double.order R 4607182418800017408 != some .eq) = false := by
        cases h : (double.order R 4607182418800017408 != some .eq) with
        | false => rfl
        | true => exact absurd ⟨b7a, h⟩ b7
      clear b7
      go_enter Try.func6, Try.ntmps6
      go_wp2
      go_ret
      exact ⟨retS_false _, rfl⟩
    · have b7a' : (double.order R 0 != some .eq) = false := by simpa using b7a
      clear b7 b7a
      go_enter Try.func6, Try.ntmps6
      go_wp2
      go_ret
      exact ⟨retS_false _, rfl⟩
  case neg =>
  have b9' : (double.order guess guess != some .eq) = false := by simpa using b9
  have Hb7 : Hid ((double.order R 0 != some .eq) = false ∨ (double.order R 4607182418800017408 != some .eq) = false) := by
    cases h : (double.order R 0 != some .eq) with
    | false => exact .inl rfl
    | true =>
      cases h2 : (double.order R 4607182418800017408 != some .eq) with
      | false => exact .inr rfl
      | true => exact absurd ⟨h, h2⟩ b7
  have Hb9 : Hid _ := b9'
  clear b9
  by_cases b7a : (double.order R 0 != some .eq) = true
  · have b7b : (double.order R 4607182418800017408 != some .eq) = false := by
      cases h : (double.order R 4607182418800017408 != some .eq) with
      | false => rfl
      | true => exact absurd ⟨b7a, h⟩ b7
    clear b7
    go_enter Try.func6, Try.ntmps6
    go_wp2
    go_loop [13, 14] (fun i _ => ∃ k : Nat, k ≤ len ∧ i = .int .i64 k ∧ Hid (RowOk xs k)) (fun i _ => len - (intOf i).toNat)
    case atStart => exact ⟨0, Nat.zero_le _, rfl, rowOk_zero _⟩
    case round =>
      obtain ⟨k, hk, rfl, hrow⟩ := hrel
      by_cases hlt : k < len
      · have hcell := hc k hlt
        have hxw := HXW.out k
        have hsucc : Hid _ := rowOk_succ xs k hrow.out
        clear hc hrow
        obtain ⟨x, hx⟩ : ∃ x, x = xs.getD k 0 := ⟨_, rfl⟩
        rw [← hx] at hcell hxw hsucc
        clear hx
        by_cases g1 : geB x 3110860544497550640 = true
        · obtain ⟨x1, x2⟩ := ge_word x 3110860544497550640 hxw (by omega) (by omega) g1
          have g1' := g1
          unfold geB at g1'
          have l1 := leB_pos x 6103021453049119613 x2 (by omega)
          by_cases g2 : x ≤ 6103021453049119613
          · rw [decide_eq_true g2] at l1
            unfold leB at l1
            have HS : Hid _ := hsucc.out ⟨x1, g2⟩
            clear g1 hsucc g2 x1 x2 hxw
            go_wp2
            go_round
            case rel => exact ⟨k + 1, by omega, by go_num, HS.out⟩
            case measure => simp [intOf]; omega
          · rw [decide_eq_false g2] at l1
            unfold leB at l1
            clear g1 hsucc g2 x1 x2 hxw
            go_wp2
            go_ret
            exact ⟨retS_false _, rfl⟩
        · have g1' : geB x 3110860544497550640 = false := by simpa using g1
          unfold geB at g1'
          clear g1 hsucc hxw
          go_wp2
          go_ret
          exact ⟨retS_false _, rfl⟩
      · clear hc
        obtain rfl : k = len := by omega
        have HDm : Hid (Dom xs t scale p R guess) := dom_of xs t scale p R guess HT.out HS0.out HP.out HR.out HG.out Hb1.out Hb2.out Hb3.out Hb4.out Hb5.out Hb6.out Hb7.out Hb9.out (by rw [HL.out]; exact hrow.out)
        clear hrow
        go_wp2
        go_ret
        exact ⟨retS_true _ HDm.out, rfl⟩
  · have b7a' : (double.order R 0 != some .eq) = false := by simpa using b7a
    clear b7 b7a
    go_enter Try.func6, Try.ntmps6
    go_wp2
    go_loop [13, 14] (fun i _ => ∃ k : Nat, k ≤ len ∧ i = .int .i64 k ∧ Hid (RowOk xs k)) (fun i _ => len - (intOf i).toNat)
    case atStart => exact ⟨0, Nat.zero_le _, rfl, rowOk_zero _⟩
    case round =>
      obtain ⟨k, hk, rfl, hrow⟩ := hrel
      by_cases hlt : k < len
      · have hcell := hc k hlt
        have hxw := HXW.out k
        have hsucc : Hid _ := rowOk_succ xs k hrow.out
        clear hc hrow
        obtain ⟨x, hx⟩ : ∃ x, x = xs.getD k 0 := ⟨_, rfl⟩
        rw [← hx] at hcell hxw hsucc
        clear hx
        by_cases g1 : geB x 3110860544497550640 = true
        · obtain ⟨x1, x2⟩ := ge_word x 3110860544497550640 hxw (by omega) (by omega) g1
          have g1' := g1
          unfold geB at g1'
          have l1 := leB_pos x 6103021453049119613 x2 (by omega)
          by_cases g2 : x ≤ 6103021453049119613
          · rw [decide_eq_true g2] at l1
            unfold leB at l1
            have HS : Hid _ := hsucc.out ⟨x1, g2⟩
            clear g1 hsucc g2 x1 x2 hxw
            go_wp2
            go_round
            case rel => exact ⟨k + 1, by omega, by go_num, HS.out⟩
            case measure => simp [intOf]; omega
          · rw [decide_eq_false g2] at l1
            unfold leB at l1
            clear g1 hsucc g2 x1 x2 hxw
            go_wp2
            go_ret
            exact ⟨retS_false _, rfl⟩
        · have g1' : geB x 3110860544497550640 = false := by simpa using g1
          unfold geB at g1'
          clear g1 hsucc hxw
          go_wp2
          go_ret
          exact ⟨retS_false _, rfl⟩
      · clear hc
        obtain rfl : k = len := by omega
        have HDm : Hid (Dom xs t scale p R guess) := dom_of xs t scale p R guess HT.out HS0.out HP.out HR.out HG.out Hb1.out Hb2.out Hb3.out Hb4.out Hb5.out Hb6.out Hb7.out Hb9.out (by rw [HL.out]; exact hrow.out)
        clear hrow
        go_wp2
        go_ret
        exact ⟨retS_true _ HDm.out, rfl⟩

set_option maxHeartbeats 4000000 in
set_option maxRecDepth 20000 in
theorem dom_nil (A : Option Addr) (cap : Nat) (t scale p R guess : Nat) (w : World) (ht : t < 2 * 9223372036854775808) (hs : scale < 2 * 9223372036854775808) (hp : p < 2 * 9223372036854775808) (hR : R < 2 * 9223372036854775808) (hg : guess < 2 * 9223372036854775808) :
    Calls Try.prog 6 #[.slice A 0 cap, .float .f64 t, .float .f64 scale, .float .f64 p, .float .f64 R, .float .f64 guess] w fun e w' => RetS (Dom [] t scale p R guess) e ∧ w = w' := by
  have hf := fmt64
  have HT : Hid _ := ht
  have HS0 : Hid _ := hs
  have HP : Hid _ := hp
  have HR : Hid _ := hR
  have HG : Hid _ := hg
  clear ht hs hp hR hg
  by_cases b1 : geB t 3110860544497550640 = true
  case neg =>
    have h' : geB t 3110860544497550640 = false := by simpa using b1
    clear b1
    unfold geB at h'
    go_enter Try.func6, Try.ntmps6
    go_wp2
    go_ret
    exact ⟨retS_false _, rfl⟩
  case pos =>
  have b1' := b1
  unfold geB at b1'
  have Hb1 : Hid _ := b1
  clear b1
  by_cases b2 : leB t 6103021453049119613 = true
  case neg =>
    have h' : leB t 6103021453049119613 = false := by simpa using b2
    clear b2
    unfold leB at h'
    go_enter Try.func6, Try.ntmps6
    go_wp2
    go_ret
    exact ⟨retS_false _, rfl⟩
  case pos =>
  have b2' := b2
  unfold leB at b2'
  have Hb2 : Hid _ := b2
  clear b2
  by_cases b3 : geB scale 3110860544497550640 = true
  case neg =>
    have h' : geB scale 3110860544497550640 = false := by simpa using b3
    clear b3
    unfold geB at h'
    go_enter Try.func6, Try.ntmps6
    go_wp2
    go_ret
    exact ⟨retS_false _, rfl⟩
  case pos =>
  have b3' := b3
  unfold geB at b3'
  have Hb3 : Hid _ := b3
  clear b3
  by_cases b4 : leB scale 6103021453049119613 = true
  case neg =>
    have h' : leB scale 6103021453049119613 = false := by simpa using b4
    clear b4
    unfold leB at h'
    go_enter Try.func6, Try.ntmps6
    go_wp2
    go_ret
    exact ⟨retS_false _, rfl⟩
  case pos =>
  have b4' := b4
  unfold leB at b4'
  have Hb4 : Hid _ := b4
  clear b4
  by_cases b5 : (double.order p 0 == some .gt) = true
  case neg =>
    have h' : (double.order p 0 == some .gt) = false := by simpa using b5
    clear b5
    go_enter Try.func6, Try.ntmps6
    go_wp2
    go_ret
    exact ⟨retS_false _, rfl⟩
  case pos =>
  have b5' := b5
  have Hb5 : Hid _ := b5
  clear b5
  by_cases b6 : (double.order p 4607182418800017408 == some .lt) = true
  case neg =>
    have h' : (double.order p 4607182418800017408 == some .lt) = false := by simpa using b6
    clear b6
    go_enter Try.func6, Try.ntmps6
    go_wp2
    go_ret
    exact ⟨retS_false _, rfl⟩
  case pos =>
  have b6' := b6
  have Hb6 : Hid _ := b6
  clear b6
  by_cases b7 : (double.order R 0 != some .eq) = true ∧ (double.order R 4607182418800017408 != some .eq) = true
  case pos =>
    obtain ⟨b7a, b7b⟩ := b7
    go_enter Try.func6, Try.ntmps6
    go_wp2
    go_ret
    exact ⟨retS_false _, rfl⟩
  case neg =>
  by_cases b9 : (double.order guess guess != some .eq) = true
  case pos =>
    by_cases b7a : (double.order R 0 != some .eq) = true
    · have b7b : (double.order R 4607182418800017408 != some .eq) = false := by
        cases h : (double.order R 4607182418800017408 != some .eq) with
        | false => rfl
        | true => exact absurd ⟨b7a, h⟩ b7
      clear b7
      go_enter Try.func6, Try.ntmps6
      go_wp2
      go_ret
      exact ⟨retS_false _, rfl⟩
    · have b7a' : (double.order R 0 != some .eq) = false := by simpa using b7a
      clear b7 b7a
      go_enter Try.func6, Try.ntmps6
      go_wp2
      go_ret
      exact ⟨retS_false _, rfl⟩
  case neg =>
  have b9' : (double.order guess guess != some .eq) = false := by simpa using b9
  have Hb7 : Hid ((double.order R 0 != some .eq) = false ∨ (double.order R 4607182418800017408 != some .eq) = false) := by
    cases h : (double.order R 0 != some .eq) with
    | false => exact .inl rfl
    | true =>
      cases h2 : (double.order R 4607182418800017408 != some .eq) with
      | false => exact .inr rfl
      | true => exact absurd ⟨h, h2⟩ b7
  have Hb9 : Hid _ := b9'
  clear b9
  by_cases b7a : (double.order R 0 != some .eq) = true
  · have b7b : (double.order R 4607182418800017408 != some .eq) = false := by
      cases h : (double.order R 4607182418800017408 != some .eq) with
      | false => rfl
      | true => exact absurd ⟨b7a, h⟩ b7
    clear b7
    go_enter Try.func6, Try.ntmps6
    go_wp2
    go_loop [13, 14] (fun i _ => i = .int .i64 0) (fun _ _ => 0)
    case atStart => exact rfl
    case round =>
      subst hrel
      have HDm : Hid (Dom [] t scale p R guess) := dom_of [] t scale p R guess HT.out HS0.out HP.out HR.out HG.out Hb1.out Hb2.out Hb3.out Hb4.out Hb5.out Hb6.out Hb7.out Hb9.out (rowOk_zero _)
      go_wp2
      go_ret
      exact ⟨retS_true _ HDm.out, rfl⟩
  · have b7a' : (double.order R 0 != some .eq) = false := by simpa using b7a
    clear b7 b7a
    go_enter Try.func6, Try.ntmps6
    go_wp2
    go_loop [13, 14] (fun i _ => i = .int .i64 0) (fun _ _ => 0)
    case atStart => exact rfl
    case round =>
      subst hrel
      have HDm : Hid (Dom [] t scale p R guess) := dom_of [] t scale p R guess HT.out HS0.out HP.out HR.out HG.out Hb1.out Hb2.out Hb3.out Hb4.out Hb5.out Hb6.out Hb7.out Hb9.out (rowOk_zero _)
      go_wp2
      go_ret
      exact ⟨retS_true _ HDm.out, rfl⟩

set_option maxHeartbeats 1000000 in
theorem short_nil (b1 b2 b3 bt cap R ri p t a : Nat) (A : Option Addr) (w : World) (hri : ri ≤ 1) (hp : p < 9218868437227405312)
    (c1 : w.cell? ⟨b1, 0, none⟩ = some (.float .f64 R)) (c2 : w.cell? ⟨b2, 0, none⟩ = some (.func (Fn.func 13) #[] #[.pointer (some ⟨bt, 0, none⟩)])) (c3 : w.cell? ⟨b2, 1, none⟩ = some (.slice A 0 cap))
    (c4 : w.cell? ⟨b3, 0, none⟩ = some (.float .f64 p)) (hR0 : R = fi ri) :
    Calls Try.prog 15 #[.float .f64 a, .pointer (some ⟨b1, 0, none⟩), .pointer (some ⟨b2, 0, none⟩), .pointer (some ⟨b3, 0, none⟩)] w fun e w' => e = .returned (.float .f64 (shortW [] t ri p a)) ∧ w = w' := by
  subst hR0
  have hfo : floatOfInt .f64 (1 : Int) = fi 1 := foi 1
  have hdiv := run_div (qi_near ri 1 (by omega) (by omega) (by omega)).1
  have hq := qi_le_one ri 1 (by omega) (by omega) (by omega)
  have hsub := run_sub (sub_some (qi ri 1) p (by omega) hp)
  have hfin : Hid (shortW [] t ri p a = subW (qi ri 1) p) := rfl
  go_enter Try.func15, Try.ntmps15
  go_wp2
  go_loop [6, 8, 13] (fun s _ i => i = .int .i64 0 ∧ s = .float .f64 (fi ri)) (fun _ _ _ => 0)
  case atStart => exact ⟨rfl, rfl⟩
  case round =>
    obtain ⟨rfl, rfl⟩ := hrel
    go_wp2
    go_ret
    exact ⟨by rw [hfin.out]; rfl, rfl⟩

end Go.Proofs.Qxb6615185a
