/-
  DERIVED. Seat b6615185a: what the answer is, and that a rotation has the same.
-/
import Derived.Test.Qxb6615185aWalk6
namespace Go.Proofs.Qxb6615185a
open Go.RowKit
open Ieee (double Datum)
set_option linter.unusedVariables false

/-- The answer exists, and it is the order statistic's. -/
theorem result_is (xs : List Nat) (t scale p R guess : Nat) (hlen : xs.length ≤ 65536) (D : Dom xs t scale p R guess) :
    ∃ r, ResultIs xs t scale p R guess r ∧ r ≤ 9218868437227405312 ∧
      (need xs.length p (riOf R) < 0 → r = 9218868437227405312) ∧ (need xs.length p (riOf R) = 0 → r = 0) ∧
      (0 < need xs.length p (riOf R) → (cntL xs (limW xs scale) t : Int) < need xs.length p (riOf R) → r = 9218868437227405312) ∧
      (0 < need xs.length p (riOf R) → ¬ (cntL xs (limW xs scale) t : Int) < need xs.length p (riOf R) → r ≤ limW xs scale ∧ need xs.length p (riOf R) ≤ (cntL xs r t : Int)) := by
  obtain ⟨f1, f2, f3, f4⟩ := ri_facts R D.r
  have hx : ∀ x ∈ xs, x < 9218868437227405312 := fun x hx => by have := (D.xs x hx).2; omega
  have ht : t ≤ 9218868437227405312 := by have := D.t2; omega
  have ht1 : 1 ≤ t := by have := D.t1; omega
  have hlim := limW_lt xs scale D.xs D.s2
  have hs2 := D.s2
  have hs1 := D.s1
  rcases need_spec xs.length p (riOf R) with ⟨h1, h2⟩ | ⟨j, h1, h2, h3, h4⟩
  · have hno := h2 xs.length (Nat.le_refl _)
    exact ⟨9218868437227405312, .inl ⟨hno, rfl⟩, Nat.le_refl _, fun _ => rfl, fun h => absurd h (by omega), fun h => absurd h (by omega), fun h => absurd h (by omega)⟩
  · have hyes : p ≤ qi (riOf R + xs.length) (xs.length + 1) := by
      have := qi_mono (riOf R + j) (riOf R + xs.length) (xs.length + 1) (by omega) (by omega) (by omega) (by omega)
      omega
    have hreach : ∀ a, reachB xs t (riOf R) p a = decide (j ≤ cntL xs a t) := by
      intro a
      unfold reachB
      have hc := cnt_le xs a t
      by_cases hj : j ≤ cntL xs a t
      · have := qi_mono (riOf R + j) (riOf R + cntL xs a t) (xs.length + 1) (by omega) (by omega) (by omega) (by omega)
        rw [decide_eq_true hj, decide_eq_true (by omega)]
      · have := h4 (cntL xs a t) (by omega)
        rw [decide_eq_false hj, decide_eq_false this]
    have hal : a0Of xs scale guess ≤ limW xs scale := by unfold a0Of; omega
    obtain ⟨g1, g2⟩ := fifty_facts (a0Of xs scale guess) (by omega)
    obtain ⟨g3, g4, g5⟩ := thou_facts scale hs1 (by omega)
    obtain ⟨n1, n2, n3, r, e, e1, e2, e3, e4⟩ := least_ends (shortW xs t (riOf R) p) (reachB xs t (riOf R) p) scale (limW xs scale) (a0Of xs scale guess) (st0Of xs scale guess)
      (goes_short xs t (riOf R) p (limW xs scale) hlen f1 D.p2 ht hx (by omega)) hlim (by omega) (by omega) hal (by unfold st0Of; omega) (by unfold st0Of; omega)
    have hz := cnt_zero xs t ht1 ht hx
    simp only [hreach, hz, decide_eq_true_eq, decide_eq_false_iff_not] at e2 e3 e4
    refine ⟨r, .inr ⟨hyes, n1, n2, n3, e⟩, e1, fun h => ?_, fun h => ?_, fun h h' => ?_, fun h h' => ?_⟩
    · omega
    · exact e2 (by omega)
    · exact e3 (by omega) (by omega)
    · have := e4 (by omega) (by omega)
      exact ⟨this.1, by omega⟩

/-! ### A rotation -/

def rotL (xs : List Nat) (c : Nat) : List Nat := xs.drop c ++ xs.take c
theorem rot_len (xs : List Nat) (c : Nat) (hc : c ≤ xs.length) : (rotL xs c).length = xs.length := by
  unfold rotL; simp; omega
theorem rot_mem (xs : List Nat) (c x : Nat) : x ∈ rotL xs c ↔ x ∈ xs := by
  unfold rotL
  rw [List.mem_append]
  constructor
  · rintro (h | h)
    · exact List.mem_of_mem_drop h
    · exact List.mem_of_mem_take h
  · intro h
    rw [← List.take_append_drop c xs, List.mem_append] at h
    exact h.symm
theorem rot_getD (xs : List Nat) (c i : Nat) (hc : c ≤ xs.length) (hi : i < xs.length) : (rotL xs c).getD i 0 = xs.getD (if xs.length ≤ i + c then i + c - xs.length else i + c) 0 := by
  unfold rotL
  simp only [List.getD_eq_getElem?_getD]
  split
  · rw [List.getElem?_append_right (by simp; omega), List.getElem?_take_of_lt (by simp; omega)]
    congr 2
    simp; omega
  · rw [List.getElem?_append_left (by simp; omega), List.getElem?_drop, Nat.add_comm]
theorem rot_cnt (xs : List Nat) (c a t : Nat) : cntL (rotL xs c) a t = cntL xs a t := by
  conv => rhs; rw [← List.take_append_drop c xs]
  unfold cntL rotL
  simp only [List.filter_append, List.length_append]
  omega
theorem max_is (xs : List Nat) : maxL xs = 0 ∨ maxL xs ∈ xs := by
  by_cases h : maxL xs = 0
  · exact .inl h
  · right
    apply Classical.byContradiction
    intro hm
    have := maxL_le xs (maxL xs - 1) (fun x hx => by
      have := maxL_ge xs x hx
      have : x ≠ maxL xs := fun e => hm (e ▸ hx)
      omega)
    omega
theorem max_same (xs ys : List Nat) (h : ∀ x, x ∈ xs → x ∈ ys) : maxL xs ≤ maxL ys := maxL_le xs _ (fun x hx => maxL_ge ys x (h x hx))
theorem rot_max (xs : List Nat) (c : Nat) : maxL (rotL xs c) = maxL xs := by
  have h1 := max_same (rotL xs c) xs (fun x hx => (rot_mem xs c x).1 hx)
  have h2 := max_same xs (rotL xs c) (fun x hx => (rot_mem xs c x).2 hx)
  omega
theorem rot_lim (xs : List Nat) (c scale : Nat) (hc : c ≤ xs.length) : limW (rotL xs c) scale = limW xs scale := by
  unfold limW; rw [rot_len xs c hc, rot_max]
theorem rot_short (xs : List Nat) (c t ri p : Nat) (hc : c ≤ xs.length) : shortW (rotL xs c) t ri p = shortW xs t ri p := by
  funext a
  unfold shortW; rw [rot_len xs c hc, rot_cnt]
theorem rot_dom (xs : List Nat) (c t scale p R guess : Nat) (D : Dom xs t scale p R guess) : Dom (rotL xs c) t scale p R guess :=
  ⟨D.t1, D.t2, D.s1, D.s2, D.p1, D.p2, D.r, D.g, fun x hx => D.xs x ((rot_mem xs c x).1 hx)⟩
theorem rot_result (xs : List Nat) (c t scale p R guess r : Nat) (hc : c ≤ xs.length) (h : ResultIs xs t scale p R guess r) : ResultIs (rotL xs c) t scale p R guess r := by
  unfold ResultIs a0Of st0Of a0Of at *
  rw [rot_len xs c hc, rot_lim xs c scale hc, rot_short xs c t _ p hc]
  exact h

end Go.Proofs.Qxb6615185a
