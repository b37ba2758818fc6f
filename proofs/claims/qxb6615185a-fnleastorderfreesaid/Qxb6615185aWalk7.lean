/-
  DERIVED. Seat b6615185a: what the law's own walk leans on: the calls over a row that may be nil, the copy, the rotation as it is laid.
-/
import Derived.Test.Qxb6615185aPlain7
import Derived.Laws.CopyOwn
import Derived.Deep.OwnRows
namespace Go.Proofs.Qxb6615185a
open Go.RowKit
open Ieee (double Datum)
set_option linter.unusedVariables false

theorem mem_getD (xs : List Nat) (j : Nat) (hj : j < xs.length) : xs.getD j 0 ∈ xs := by
  rw [List.getD_eq_getElem?_getD, List.getElem?_eq_getElem hj]; exact List.getElem_mem hj

theorem limit_row (A : Option Addr) (cap : Nat) (xs : List Nat) (t scale p R guess : Nat) (w : World) (hlen : xs.length ≤ 65536) (hrow : RowAt w A xs) (D : Dom xs t scale p R guess) :
    Calls Try.prog 10 #[.slice A xs.length cap, .float .f64 scale] w fun e w' => e = .returned (.float .f64 (limW xs scale)) ∧ w = w' := by
  have hs := D.s2
  by_cases h0 : xs = []
  · subst h0
    exact limit_nil A cap scale w
  · rcases hrow with h | ⟨b, o, rfl, hc⟩
    · exact absurd h h0
    · have h1 : 1 ≤ xs.length := by
        cases xs with
        | nil => exact absurd rfl h0
        | cons x l => simp
      have hx : ∀ x ∈ xs, x ≤ 9218868437227405312 := fun x hx => by have := (D.xs x hx).2; omega
      have hm2 : maxL xs ≤ 6103021453049119613 := maxL_le xs 6103021453049119613 (fun x hxm => (D.xs x hxm).2)
      have hm1 : 3110860544497550640 ≤ maxL xs := Nat.le_trans (D.xs _ (mem_getD xs 0 (by omega))).1 (maxL_ge _ _ (mem_getD xs 0 (by omega)))
      obtain ⟨l1, l2⟩ := lim_facts (maxL xs) hm1 hm2
      exact limit_some b o xs.length cap scale xs w rfl hlen h1 hx hc (by omega) l1 (by omega)

theorem count_row (A : Option Addr) (cap : Nat) (xs : List Nat) (a t scale p R guess : Nat) (w : World) (hlen : xs.length ≤ 65536) (hrow : RowAt w A xs) (D : Dom xs t scale p R guess) (ha : a < 9218868437227405312) :
    Calls Try.prog 11 #[.slice A xs.length cap, .float .f64 a, .float .f64 t] w fun e w' => e = .returned (.int .i64 (cntL xs a t)) ∧ w = w' := by
  rcases hrow with rfl | ⟨b, o, rfl, hc⟩
  · exact count_nil A cap a t w
  · exact count_some b o xs.length cap xs a t w rfl hlen hc (fun j hj => (mul_le_inf a _ ha (by have := (D.xs _ (mem_getD xs j hj)).2; omega)).1)

theorem dom_row (A : Option Addr) (cap : Nat) (xs : List Nat) (t scale p R guess : Nat) (w : World) (hlen : xs.length ≤ 65536) (hrow : RowAt w A xs) (hxw : ∀ j, xs.getD j 0 < 2 * 9223372036854775808) (ht : t < 2 * 9223372036854775808) (hs : scale < 2 * 9223372036854775808) (hp : p < 2 * 9223372036854775808) (hR : R < 2 * 9223372036854775808) (hg : guess < 2 * 9223372036854775808) :
    Calls Try.prog 6 #[.slice A xs.length cap, .float .f64 t, .float .f64 scale, .float .f64 p, .float .f64 R, .float .f64 guess] w fun e w' => RetS (Dom xs t scale p R guess) e ∧ w = w' := by
  rcases hrow with rfl | ⟨b, o, rfl, hc⟩
  · exact dom_nil A cap t scale p R guess w ht hs hp hR hg
  · exact dom_some b o xs.length cap xs t scale p R guess w rfl hlen hxw ht hs hp hR hg hc

/-! ### The copy -/

theorem info23 : (Try.prog.info? 23).map (fun i => (i.zero, i.size, i.bytes)) = some (some (.float .f64 0), 1, 8) := by kernel_rfl
theorem info23s : (Try.prog.info? 23).map (·.size) = some 1 := by kernel_rfl

theorem made_lies (w : World) (n : Nat) : (w.alloc (.cells (madeCells #[.float .f64 0] n) 23)).heap[w.heap.size]? = some (.cells (madeCells #[.float .f64 0] n).toList.toArray 23 (0, 0)) := by
  show (w.heap.push _)[w.heap.size]? = _; simp

theorem made_length (n : Nat) : (madeCells #[Value.float .f64 0] n).toList.length = n := by
  rw [Array.length_toList]; exact size_madeCells _ _

theorem src_lies (w : World) (a : Addr) (len : Nat) (xs : List Nat) (o : Obj) (hc : ∀ j, j < len → w.cell? (a.add j) = some (.float .f64 (xs.getD j 0))) (j : Nat) (v : Value)
    (h : ((xs.take len).map (Value.float .f64))[j]? = some v) : (w.alloc o).cell? (a.add j) = some v := by
  have hj : j < len := by
    have := List.getElem?_eq_some_iff.1 h
    obtain ⟨h1, _⟩ := this
    simp at h1; omega
  rw [List.getElem?_map, List.getElem?_take_of_lt hj] at h
  cases hx : xs[j]? with
  | none => rw [hx] at h; simp at h
  | some x =>
    rw [hx] at h
    simp at h
    subst h
    have := hc j hj
    rw [List.getD_eq_getElem?_getD, hx] at this
    rw [((Below.refl w.heap.size w).alloc (Nat.le_refl _) _).cell (p := a.add j) (block_lt_of_cell this)]
    simpa using this

/-- 'zzc := make(..); copy(zzc, perLoad)' -/
theorem copy_made (w : World) (a : Addr) (len cap : Nat) (xs : List Nat) (hxl : xs.length = len) (hc : ∀ j, j < len → w.cell? (a.add j) = some (.float .f64 (xs.getD j 0))) :
    ∃ w1, (Builtin.copy_ #[22, 22] 3 #[.slice (some ⟨w.heap.size, 0, none⟩) len len, .slice (some a) len cap]).run Try.prog (w.alloc (.cells (madeCells #[.float .f64 0] len) 23)) = .ok (.int .i64 len) w1 ∧ Below w.heap.size w w1 ∧ w.heap.size < w1.heap.size ∧
      ∀ j, j < len → w1.cell? ⟨w.heap.size, j, none⟩ = some (.float .f64 (xs.getD j 0)) := by
  have hlies := made_lies w len
  have hml := made_length len
  have hbel := (Below.refl w.heap.size w).alloc (Nat.le_refl _) (.cells (madeCells #[.float .f64 0] len) 23)
  have hcsl : ((xs.take len).map (Value.float .f64)).length = len := by simp; omega
  have hone : ∀ v ∈ (xs.take len).map (Value.float .f64), v.oneCell' = true := by
    intro v hv
    obtain ⟨x, _, rfl⟩ := List.mem_map.1 hv
    rfl
  have hrun := run_copy_row (P := Try.prog) (w.alloc (.cells (madeCells #[.float .f64 0] len) 23)) 22 22 3 23 w.heap.size 0 len len a len cap (madeCells #[.float .f64 0] len).toList.toArray 23 ((xs.take len).map (Value.float .f64)) Try.underlying22 info23s hlies (by rw [hcsl]; exact (Nat.min_self _).symm) (src_lies w a len xs _ hc) (by rw [hcsl]; simp only [List.size_toArray, hml]; omega) hone
  rw [hcsl] at hrun
  refine ⟨_, hrun, below_setRow hbel (Nat.le_refl _) _, ?_, ?_⟩
  · show _ < ((w.alloc _).setRow _ _).heap.size
    have : ∀ cs, ((w.alloc (.cells (madeCells #[.float .f64 0] len) 23)).setRow w.heap.size cs).heap.size = w.heap.size + 1 := by intro cs; simp [World.setRow]
    rw [this]
    omega
  · intro j hj
    have hx : xs[j]? = some (xs.getD j 0) := by
      rw [List.getD_eq_getElem?_getD, List.getElem?_eq_getElem (by omega)]; rfl
    have hrow := setRow_heap (w.alloc (.cells (madeCells #[.float .f64 0] len) 23)) w.heap.size _ ((List.take 0 (madeCells #[Value.float .f64 0] len).toList.toArray.toList ++ List.map (Value.float .f64) (List.take len xs) ++ List.drop (0 + len) (madeCells #[Value.float .f64 0] len).toList.toArray.toList)).toArray 23 _ hlies
    have harr : ((List.take 0 (madeCells #[Value.float .f64 0] len).toList.toArray.toList ++ List.map (Value.float .f64) (List.take len xs) ++ List.drop (0 + len) (madeCells #[Value.float .f64 0] len).toList.toArray.toList)).toArray[j]? = some (.float .f64 (xs.getD j 0)) := by
      rw [List.getElem?_toArray, List.take_zero, List.nil_append, List.getElem?_append_left (by rw [hcsl]; exact hj), List.getElem?_map, List.getElem?_take_of_lt hj, hx]
      rfl
    exact (cell_of_row _ _ j _ 23 _ hrow).trans harr

/-! ### The rotation, as it is laid -/

def RotAt (w1 : World) (len : Nat) (ys : List Nat) (k : Nat) (wr : World) : Prop :=
  Below w1.heap.size w1 wr ∧ w1.heap.size < wr.heap.size ∧ ∃ arr, wr.heap[w1.heap.size]? = some (.cells arr 23 (0, 0)) ∧ arr.size = len ∧ ∀ j, j < k → arr[j]? = some (.float .f64 (ys.getD j 0))

theorem rot_start (w1 : World) (len : Nat) (ys : List Nat) : RotAt w1 len ys 0 (w1.alloc (.cells (madeCells #[.float .f64 0] len) 23)) :=
  ⟨(Below.refl _ _).alloc (Nat.le_refl _) _, by simp, _, made_lies w1 len, by simp only [List.size_toArray, made_length], fun j hj => absurd hj (Nat.not_lt_zero _)⟩

theorem rot_cell {w1 wr : World} {len k : Nat} {ys : List Nat} (h : RotAt w1 len ys k wr) (hk : k < len) : (∃ v, wr.cell? ⟨w1.heap.size, k, none⟩ = some v) ∧ wr.frozen? ⟨w1.heap.size, k, none⟩ = false := by
  obtain ⟨hb, hz, arr, h1, h2, h3⟩ := h
  refine ⟨⟨arr[k]'(by omega), ?_⟩, frozen_of_row _ _ _ _ _ h1⟩
  rw [cell_of_row _ _ k _ _ _ h1, Array.getElem?_eq_getElem (by omega)]

theorem rot_step {w1 wr : World} {len k : Nat} {ys : List Nat} (h : RotAt w1 len ys k wr) (hk : k < len) : RotAt w1 len ys (k + 1) (wr.setCell ⟨w1.heap.size, k, none⟩ (.float .f64 (ys.getD k 0))) := by
  obtain ⟨hb, hz, arr, h1, h2, h3⟩ := h
  refine ⟨hb.setCell (Nat.le_refl _) _, by simpa using hz, _, heap_setCell_same _ _ _ _ _ _ h1, by simpa using h2, fun j hj => ?_⟩
  by_cases e : j = k
  · subst e
    rw [Array.getElem?_setIfInBounds_self_of_lt (by omega)]
  · rw [Array.getElem?_setIfInBounds_ne (by omega)]
    exact h3 j (by omega)

theorem rot_end {w1 wr : World} {len : Nat} {ys : List Nat} (hl : ys.length = len) (h : RotAt w1 len ys len wr) : RowAt wr (some ⟨w1.heap.size, 0, none⟩) ys := by
  obtain ⟨hb, hz, arr, h1, h2, h3⟩ := h
  refine .inr ⟨_, _, rfl, fun j hj => ?_⟩
  rw [Nat.zero_add, cell_of_row _ _ j _ _ _ h1]
  exact h3 j (by omega)

end Go.Proofs.Qxb6615185a
