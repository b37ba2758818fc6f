/-
  DERIVED. Seat b6615185a: the walks of 'least' and 'ZZleastStep'.
-/
import Derived.Test.Qxb6615185aWalk3
import Derived.Test.Qxb6615185aWalk5
import Derived.Laws.EntriesVeiled
namespace Go.Proofs.Qxb6615185a
open Go.RowKit
open Ieee (double Datum)
set_option linter.unusedVariables false

def a0Of (xs : List Nat) (scale guess : Nat) : Nat := min (gm guess) (limW xs scale)
def st0Of (xs : List Nat) (scale guess : Nat) : Nat := max (divW (a0Of xs scale guess) 4632233691727265792) (divW scale 4652007308841189376)
/-- What 'least' answers. -/
def ResultIs (xs : List Nat) (t scale p R guess r : Nat) : Prop :=
  (¬ p ≤ qi (riOf R + xs.length) (xs.length + 1) ∧ r = 9218868437227405312) ∨
  (p ≤ qi (riOf R + xs.length) (xs.length + 1) ∧ ∃ n1 n2 n3, leastN (shortW xs t (riOf R) p) scale (limW xs scale) (a0Of xs scale guess) (st0Of xs scale guess) n1 n2 n3 = some r)

theorem qi_zero (d : Nat) (hd : d ≤ 131072) (hd0 : 1 ≤ d) : qi 0 d = 0 := by
  have := (qi_near 0 d (by omega) hd hd0).2.2 0 (by rw [V_zero]; simp)
  omega

theorem RowAt.below {w w' : World} {A : Option Addr} {xs : List Nat} (h : RowAt w A xs) (hb : Below w.heap.size w w') : RowAt w' A xs := by
  rcases h with h | ⟨b, o, rfl, hc⟩
  · exact .inl h
  · refine .inr ⟨b, o, rfl, fun j hj => ?_⟩
    have := hc j hj
    rw [hb.cell (p := ⟨b, o + j, none⟩) (block_lt_of_cell this)]; exact this
theorem RowAt.same {w w' : World} {A : Option Addr} {xs : List Nat} (h : RowAt w A xs) (hb : SameW w w') : RowAt w' A xs := by
  rcases h with h | ⟨b, o, rfl, hc⟩
  · exact .inl h
  · exact .inr ⟨b, o, rfl, fun j hj => by rw [hb.cell]; exact hc j hj⟩

/-- The closure, at every row. -/
theorem short_all (b1 b2 b3 bt cap R p t a : Nat) (A : Option Addr) (xs : List Nat) (w : World) (hlen : xs.length ≤ 65536) (hp : p < 4607182418800017408) (hp0 : 0 < p) (hR : R = 0 ∨ R = 9223372036854775808 ∨ R = 4607182418800017408) (hrow : RowAt w A xs)
    (c1 : w.cell? ⟨b1, 0, none⟩ = some (.float .f64 R)) (c2 : w.cell? ⟨b2, 0, none⟩ = some (.func (Fn.func 13) #[] #[.pointer (some ⟨bt, 0, none⟩)])) (c3 : w.cell? ⟨b2, 1, none⟩ = some (.slice A xs.length cap))
    (c4 : w.cell? ⟨b3, 0, none⟩ = some (.float .f64 p)) (c5 : w.cell? ⟨bt, 0, none⟩ = some (.float .f64 t)) (hx : ∀ x ∈ xs, x < 9218868437227405312) (ha : a < 9218868437227405312) (hreach : p ≤ qi (riOf R + xs.length) (xs.length + 1)) :
    Calls Try.prog 15 #[.float .f64 a, .pointer (some ⟨b1, 0, none⟩), .pointer (some ⟨b2, 0, none⟩), .pointer (some ⟨b3, 0, none⟩)] w fun e w' => e = .returned (.float .f64 (shortW xs t (riOf R) p a)) ∧ w = w' := by
  obtain ⟨r1, r2, r3, r4⟩ := ri_facts R hR
  have hR0 : xs.length = 0 → R = fi (riOf R) := by
    intro h0
    apply r4
    apply Classical.byContradiction
    intro hne
    have : riOf R = 0 := by unfold riOf; rw [if_neg hne]
    rw [this, h0, qi_zero 1 (by omega) (by omega)] at hreach
    omega
  rcases hrow with rfl | ⟨b, o, rfl, hc⟩
  · exact short_nil b1 b2 b3 bt cap R (riOf R) p t a A w r1 (by omega) c1 c2 c3 c4 (hR0 rfl)
  · refine short_any b1 b2 b3 bt b o cap R (riOf R) p t a xs w hlen r1 (by omega) c1 c2 c3 c4 c5 hc (fun j hj => ?_) r2 hR0
    have hm : xs.getD j 0 ∈ xs := by rw [List.getD_eq_getElem?_getD, List.getElem?_eq_getElem hj]; exact List.getElem_mem hj
    exact (mul_le_inf a _ ha (hx _ hm)).1

set_option maxHeartbeats 2000000 in
set_option maxRecDepth 20000 in
theorem least_any (A : Option Addr) (cap bt : Nat) (xs : List Nat) (t scale p R guess r : Nat) (w : World) (hlen : xs.length ≤ 65536) (hrow : RowAt w A xs) (hbt : w.cell? ⟨bt, 0, none⟩ = some (.float .f64 t))
    (D : Dom xs t scale p R guess) (HR : ResultIs xs t scale p R guess r) :
    Calls Try.prog 14 #[.agg #[.func (Fn.func 13) #[] #[.pointer (some ⟨bt, 0, none⟩)], .slice A xs.length cap], .float .f64 scale, .float .f64 p, .float .f64 R, .float .f64 guess] w fun e w' => e = .returned (.float .f64 r) ∧ Below w.heap.size w w' := by
  have hf := fmt64
  obtain ⟨f1, f2, f3, f4⟩ := ri_facts R D.r
  obtain ⟨len, hln⟩ : ∃ len, len = xs.length := ⟨_, rfl⟩
  have hfo := foi len
  have hfo1 := foi (len + 1)
  rw [show ((len + 1 : Nat) : Int) = (len : Int) + 1 by omega] at hfo1
  rw [← hln] at hlen
  have hadd := run_add (f3 len hlen)
  have hdiv := run_div (qi_near (riOf R + len) (len + 1) (by omega) (by omega) (by omega)).1
  have hq1 := qi_le_one (riOf R + len) (len + 1) (by omega) (by omega) (by omega)
  have hp2 := D.p2
  have hcmp := ltB_pos (qi (riOf R + len) (len + 1)) p (by omega) (by omega)
  have HD : Hid _ := D
  have HRow : Hid (RowAt w A xs) := hrow
  have HBT : Hid _ := hbt
  have HLn : Hid _ := hln
  have hbz : bt < w.heap.size := block_lt_of_cell hbt
  have hRI := HR
  unfold ResultIs at hRI
  rw [← hln] at hRI ⊢
  have hsz := HD.out.s2
  have hsz1 := HD.out.s1
  clear D hrow hbt HR hln f2 f3 f4 hq1 hp2
  rcases hRI with ⟨h1, h2⟩ | ⟨h1, n1, n2, n3, h2⟩
  · rw [decide_eq_true (by omega)] at hcmp
    have HR2 : Hid _ := h2
    clear h1 h2
    go_enter Try.func14, Try.ntmps14
    go_wp2_with fail
    refine (inf_any _).mono ?_
    rintro e w' ⟨rfl, rfl⟩
    go_wp2
    go_ret
    exact ⟨by rw [HR2.out]; rfl, (((Below.refl _ _).alloc (Nat.le_refl _) _).alloc (by simp) _).alloc (by simp; omega) _⟩
  · rw [decide_eq_false (by omega)] at hcmp
    have HR2 : Hid _ := h2
    have HRe : Hid _ := h1
    clear h1 h2
    have hlB := limW_lt xs scale HD.out.xs hsz
    obtain ⟨L, hL⟩ : ∃ L, L = limW xs scale := ⟨_, rfl⟩
    have HLL : Hid _ := hL
    rw [← hL] at hlB
    -- what 'leastAt' does, whatever the draws
    have hal : a0Of xs scale guess ≤ L := by unfold a0Of; rw [hL]; omega
    obtain ⟨g1, g2⟩ := fifty_facts (a0Of xs scale guess) (by omega)
    obtain ⟨g3, g4, g5⟩ := thou_facts scale hsz1 (by omega)
    have HLst : Hid (∀ W : World, RowAt W A xs → W.cell? ⟨bt, 0, none⟩ = some (.float .f64 t) → W.cell? ⟨w.heap.size + 1 + 1, 0, none⟩ = some (.float .f64 R) → W.cell? ⟨w.heap.size, 0, none⟩ = some (.func (Fn.func 13) #[] #[.pointer (some ⟨bt, 0, none⟩)]) →
        W.cell? ⟨w.heap.size, 1, none⟩ = some (.slice A len cap) → W.cell? ⟨w.heap.size + 1, 0, none⟩ = some (.float .f64 p) →
        Calls Try.prog 18 #[.func (Fn.func 15) #[] #[.pointer (some ⟨w.heap.size + 1 + 1, 0, none⟩), .pointer (some ⟨w.heap.size, 0, none⟩), .pointer (some ⟨w.heap.size + 1, 0, none⟩)], .float .f64 scale, .float .f64 L, .float .f64 guess] W fun e w' => e = .returned (.float .f64 r) ∧ SameW W w') := by
      intro W w1 w2 w3 w4 w5 w6
      refine least_walk (shortW xs t (riOf R) p) scale L guess (a0Of xs scale guess) (st0Of xs scale guess) n1 n2 n3 r _ _ _ W HD.out.g (by rw [hL]; rfl) g1 g2 g3 g4 rfl hlB (by omega) (by omega) (by unfold st0Of; omega)
        (fun a _ => (short_sign xs t (riOf R) p a (by rw [← HLn.out]; exact hlen) f1 HD.out.p2).2.2) (fun a ha W' hW' => ?_) (by rw [hL]; exact HR2.out)
      exact short_all _ _ _ bt cap R p t a A xs W' (by rw [← HLn.out]; exact hlen) HD.out.p2 HD.out.p1 HD.out.r (w1.same hW') (by rw [hW'.cell]; exact w3) (by rw [hW'.cell]; exact w4) (by rw [hW'.cell, ← HLn.out]; exact w5) (by rw [hW'.cell]; exact w6) (by rw [hW'.cell]; exact w2)
        (fun x hx => by have := HD.out.xs x hx; omega) (by omega) (by rw [← HLn.out]; exact HRe.out)
    have hw3 : ∀ o1 o2 o3, Below w.heap.size w (((w.alloc o1).alloc o2).alloc o3) := fun o1 o2 o3 => (((Below.refl _ _).alloc (Nat.le_refl _) _).alloc (by simp) _).alloc (by simp; omega) _
    have HW3 : Hid _ := hw3
    clear hw3 hL hal g1 g2 g3 g4 g5 HR2
    by_cases h0 : len = 0
    · have hLs : L = scale := by rw [HLL.out]; unfold limW; rw [if_pos (by rw [← HLn.out]; exact h0)]
      subst hLs
      have hle : (len : Int) ≤ 0 := by omega
      have H0 : Hid _ := h0
      clear h0
      go_enter Try.func14, Try.ntmps14
      go_wp2_with fail
      refine Calls.mono (HLst.out _ (HRow.out.below (HW3.out _ _ _)) (by rw [(HW3.out _ _ _).cell (p := ⟨bt, 0, none⟩) hbz]; exact HBT.out) (by go_simp) (by go_simp) (by go_simp) (by go_simp)) ?_
      rintro e w' ⟨rfl, hsw⟩
      have HSW : Hid _ := hsw
      clear hsw
      go_wp2
      go_ret
      exact ⟨rfl, (HW3.out _ _ _).trans (HSW.out.below.mono (by simp; omega))⟩
    · have hne : xs ≠ [] := by intro h; have := HLn.out; rw [h] at this; exact h0 (by simpa using this)
      obtain ⟨b, o, hA, hc⟩ : ∃ b o, A = some ⟨b, o, none⟩ ∧ ∀ j, j < xs.length → w.cell? ⟨b, o + j, none⟩ = some (.float .f64 (xs.getD j 0)) := by
        rcases HRow.out with h | h
        · exact absurd h hne
        · exact h
      subst hA
      have HC : Hid _ := hc
      have h1 : maxL xs ≤ 6103021453049119613 := maxL_le xs 6103021453049119613 (fun x hxm => (HD.out.xs x hxm).2)
      have h2 : 3110860544497550640 ≤ maxL xs := by
        obtain ⟨x, xs', rfl⟩ := List.exists_cons_of_ne_nil hne
        exact Nat.le_trans (HD.out.xs x (by simp)).1 (maxL_ge _ x (by simp))
      obtain ⟨l1, l2⟩ := lim_facts (maxL xs) h2 h1
      have k1 := run_div l1
      have k2 := fun ts ty W => run_max_pos scale (divW 6850974717710472879 (maxL xs)) (by omega) (by omega) ts ty W
      have k3 := fun ts ty W => run_min_pos (max scale (divW 6850974717710472879 (maxL xs))) 9218868437227405311 (by omega) (by omega) ts ty W
      have hLe : min (max scale (divW 6850974717710472879 (maxL xs))) 9218868437227405311 = L := by rw [HLL.out]; unfold limW; rw [if_neg (by rw [← HLn.out]; exact h0)]
      simp only [hLe] at k3
      have hpos : (0 : Int) < (len : Int) := by omega
      clear hc hne h1 h2 l1 l2 hLe
      have hMax : Hid (∀ o1 o2 o3, Calls Try.prog 17 #[.slice (some ⟨b, o, none⟩) len cap] (((w.alloc o1).alloc o2).alloc o3) fun e w' => e = .returned (.float .f64 (maxL xs)) ∧ (((w.alloc o1).alloc o2).alloc o3) = w') := by
        intro o1 o2 o3
        refine max_any b o len cap xs _ HLn.out.symm hlen (by omega) (fun x hx => by have := HD.out.xs x hx; omega) (fun j hj => ?_)
        have h := HC.out j (by rw [← HLn.out]; exact hj)
        rw [(HW3.out _ _ _).cell (p := ⟨b, o + j, none⟩) (block_lt_of_cell h)]; exact h
      go_enter Try.func14, Try.ntmps14
      go_wp2_with fail
      refine Calls.mono (hMax.out _ _ _) ?_
      rintro e w' ⟨rfl, rfl⟩
      go_wp2_with fail
      refine Calls.mono (HLst.out _ (HRow.out.below (HW3.out _ _ _)) (by rw [(HW3.out _ _ _).cell (p := ⟨bt, 0, none⟩) hbz]; exact HBT.out) (by go_simp) (by go_simp) (by go_simp) (by go_simp)) ?_
      rintro e w' ⟨rfl, hsw⟩
      have HSW : Hid _ := hsw
      clear hsw
      go_wp2
      go_ret
      exact ⟨rfl, (HW3.out _ _ _).trans (HSW.out.below.mono (by simp; omega))⟩

set_option maxHeartbeats 1000000 in
theorem step_any (A : Option Addr) (cap : Nat) (xs : List Nat) (t scale p R guess r : Nat) (w : World) (hlen : xs.length ≤ 65536) (hrow : RowAt w A xs) (D : Dom xs t scale p R guess) (HR : ResultIs xs t scale p R guess r) :
    Calls Try.prog 8 #[.slice A xs.length cap, .float .f64 t, .float .f64 scale, .float .f64 p, .float .f64 R, .float .f64 guess] w fun e w' => e = .returned (.float .f64 r) ∧ Below w.heap.size w w' := by
  have hw2 : ∀ o1 o2, Below w.heap.size w ((w.alloc o1).alloc o2) := fun o1 o2 => ((Below.refl _ _).alloc (Nat.le_refl _) _).alloc (by simp) _
  have HW2 : Hid _ := hw2
  have HL : Hid (∀ W, RowAt W A xs → W.cell? ⟨w.heap.size, 0, none⟩ = some (.float .f64 t) → Calls Try.prog 14 #[.agg #[.func (Fn.func 13) #[] #[.pointer (some ⟨w.heap.size, 0, none⟩)], .slice A xs.length cap], .float .f64 scale, .float .f64 p, .float .f64 R, .float .f64 guess] W fun e w' => e = .returned (.float .f64 r) ∧ Below W.heap.size W w') :=
    fun W h1 h2 => least_any A cap w.heap.size xs t scale p R guess r W hlen h1 h2 D HR
  have HRow : Hid (RowAt w A xs) := hrow
  clear D HR hw2 hrow
  go_enter Try.func8, Try.ntmps8
  go_wp2_with fail
  refine Calls.mono (HL.out _ (HRow.out.below (HW2.out _ _)) (by go_simp)) ?_
  rintro e w' ⟨rfl, hb⟩
  have HB : Hid _ := hb
  clear hb
  go_wp2
  go_ret
  exact ⟨rfl, (HW2.out _ _).trans (HB.out.mono (by simp; omega))⟩

end Go.Proofs.Qxb6615185a
