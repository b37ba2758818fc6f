/-
  DERIVED. Seat b6615160aD: the walk's step: '(*argWalk).next'.
-/
import Derived.Test.Qxb6615160aDoorWalkA
import Derived.Laws.CopyRow
namespace Go.Proofs.Qxb6615160aDoor
open Go.RowKit
set_option linter.unusedVariables false

/-- Of what was there only block b has turned. -/
structure Only (b : Nat) (w w' : World) : Prop where
  os : w'.os = w.os
  tape : w'.tape = w.tape
  output : w'.output = w.output
  size : w.heap.size ≤ w'.heap.size
  block : ∀ k, k < w.heap.size → k ≠ b → w'.heap[k]? = w.heap[k]?

theorem Only.refl (b : Nat) (w : World) : Only b w w := ⟨rfl, rfl, rfl, Nat.le_refl _, fun _ _ _ => rfl⟩
theorem Only.trans {b : Nat} {w1 w2 w3 : World} (h : Only b w1 w2) (k : Only b w2 w3) : Only b w1 w3 :=
  ⟨k.os.trans h.os, k.tape.trans h.tape, k.output.trans h.output, Nat.le_trans h.size k.size, fun i hi hb => (k.block i (Nat.lt_of_lt_of_le hi h.size) hb).trans (h.block i hi hb)⟩
theorem Only.below {b B : Nat} {w w' : World} (h : Only b w w') (hB : B ≤ b) (hz : B ≤ w.heap.size) : Below B w w' :=
  ⟨h.os, h.tape, h.output, h.size, fun k hk => h.block k (by omega) (by omega)⟩
theorem Only.cell {b : Nat} {w w' : World} (h : Only b w w') {p : Addr} (hp : p.block < w.heap.size) (hb : p.block ≠ b) : w'.cell? p = w.cell? p :=
  World.cell?_of_block (w := w) (h.block p.block hp hb)
theorem Only.of_below {b : Nat} {w w' : World} (h : Below w.heap.size w w') : Only b w w' := ⟨h.os, h.tape, h.output, h.size, fun k hk _ => h.block k hk⟩
theorem Only.setCell (b i : Nat) (w : World) (v : Value) : Only b w (w.setCell ⟨b, i, none⟩ v) :=
  ⟨rfl, rfl, rfl, by rw [show (w.setCell ⟨b, i, none⟩ v).heap.size = w.heap.size by simp [World.setCell]]; exact Nat.le_refl _, fun k _ hb => Below.heap_setCell w ⟨b, i, none⟩ v k hb⟩

/-- The walk at block b: its matcher at block m, its three numbers. -/
def WalkAt (w : World) (b m : Nat) (s d h : Int) : Prop := w.heap[b]? = some (.cells #[.pointer (some ⟨m, 0, none⟩), .int .i64 s, .int .i64 d, .int .i64 h] 42 (0, 0))

theorem WalkAt.set1 {w : World} {b m : Nat} {s d h : Int} (k : WalkAt w b m s d h) (x : Int) : WalkAt (w.setCell ⟨b, 1, none⟩ (.int .i64 x)) b m x d h := by
  unfold WalkAt at *
  rw [setCell_eq_setRow w b 1 _ 42 (0, 0) _ k]
  exact setRow_heap w b _ _ 42 _ k
theorem WalkAt.set2 {w : World} {b m : Nat} {s d h : Int} (k : WalkAt w b m s d h) (x : Int) : WalkAt (w.setCell ⟨b, 2, none⟩ (.int .i64 x)) b m s x h := by
  unfold WalkAt at *
  rw [setCell_eq_setRow w b 2 _ 42 (0, 0) _ k]
  exact setRow_heap w b _ _ 42 _ k
theorem WalkAt.set3 {w : World} {b m : Nat} {s d h : Int} (k : WalkAt w b m s d h) (x : Int) : WalkAt (w.setCell ⟨b, 3, none⟩ (.int .i64 x)) b m s d x := by
  unfold WalkAt at *
  rw [setCell_eq_setRow w b 3 _ 42 (0, 0) _ k]
  exact setRow_heap w b _ _ 42 _ k
theorem WalkAt.lt {w : World} {b m : Nat} {s d h : Int} (k : WalkAt w b m s d h) : b < w.heap.size := (Array.getElem?_eq_some_iff.1 k).1
theorem WalkAt.cells {w : World} {b m : Nat} {s d h : Int} (k : WalkAt w b m s d h) : w.cell? ⟨b, 0, none⟩ = some (.pointer (some ⟨m, 0, none⟩)) ∧ w.cell? ⟨b, 1, none⟩ = some (.int .i64 s) ∧ w.cell? ⟨b, 2, none⟩ = some (.int .i64 d) ∧ w.cell? ⟨b, 3, none⟩ = some (.int .i64 h) ∧
    w.frozen? ⟨b, 1, none⟩ = false ∧ w.frozen? ⟨b, 2, none⟩ = false ∧ w.frozen? ⟨b, 3, none⟩ = false := by
  unfold WalkAt at k
  simp [World.cell?, World.frozen?, k]
theorem WalkAt.below {w w' : World} {b m : Nat} {s d h : Int} (k : WalkAt w b m s d h) (hb : Below w.heap.size w w') : WalkAt w' b m s d h := (hb.block b k.lt).trans k
theorem WalkAt.only {w w' : World} {b b' m : Nat} {s d h : Int} (k : WalkAt w b m s d h) (hb : Only b' w w') (hne : b ≠ b') : WalkAt w' b m s d h := (hb.block b k.lt hne).trans k

theorem field2 (x0 x1 x2 : Value) (w : World) : (Instr.field 45 (.agg #[x0, x1, x2]) 2).run Tryd.prog w = .ok x2 w := by kernel_rfl

set_option maxHeartbeats 1000000 in
theorem next_a (b m g len cap s c : Nat) (d h n x0 x1 : Int) (w : World) (hz : 0 < w.heap.size) (hbz : b < w.heap.size) (hmz : m < w.heap.size) (hgz : g < w.heap.size)
    (hb0 : w.cell? ⟨b, 0, none⟩ = some (.pointer (some ⟨m, 0, none⟩))) (hb1 : w.cell? ⟨b, 1, none⟩ = some (.int .i64 s)) (hb2 : w.cell? ⟨b, 2, none⟩ = some (.int .i64 d)) (hb3 : w.cell? ⟨b, 3, none⟩ = some (.int .i64 h))
    (f1 : w.frozen? ⟨b, 1, none⟩ = false) (f2 : w.frozen? ⟨b, 2, none⟩ = false) (f3 : w.frozen? ⟨b, 3, none⟩ = false)
    (hm4 : w.cell? ⟨m, 4, none⟩ = some (.slice (some ⟨g, 0, none⟩) len cap)) (hs : s < len) (hg0 : w.cell? ⟨g, s * 2, none⟩ = some (.int .u8 c)) (hg1 : w.cell? ⟨g, s * 2 + 1, none⟩ = some (.int .i64 n)) (hc : c ≤ 4)
    (t0 : w.cell? ⟨0, c * 3, none⟩ = some (.int .i64 x0)) (t1 : w.cell? ⟨0, c * 3 + 1, none⟩ = some (.int .i64 x1)) (t2 : w.cell? ⟨0, c * 3 + 2, none⟩ = some (.int .i64 1))
    (hlen : len ≤ 65537) (hd0 : 0 ≤ d) (hd1 : d ≤ 65536) (hh0 : 0 ≤ h) (hh1 : h ≤ 65536) (hdn : ((d + 1 : Int) == n) = false) :
    Calls Tryd.prog 14 #[.pointer (some ⟨b, 0, none⟩)] w fun e w' => e = .returned (.int .i64 h) ∧ Below ((w.setCell ⟨b, 3, none⟩ (.int .i64 (h + 1))).setCell ⟨b, 2, none⟩ (.int .i64 (d + 1))).heap.size ((w.setCell ⟨b, 3, none⟩ (.int .i64 (h + 1))).setCell ⟨b, 2, none⟩ (.int .i64 (d + 1))) w' := by
  have hfl := field2
  go_enter Tryd.func14, Tryd.ntmps14
  go_wp2
  go_region
  go_wp2_with fail
  refine (rule_any c hc x0 x1 1 _ ?_ ?_ ?_ ?_).mono ?_
  · simp
  · go_simp
  · go_simp
  · go_simp
  rintro e w1 ⟨rfl, xs, rfl⟩
  go_wp2
  go_region
  go_wp2
  go_ret
  exact ⟨rfl, ((((Below.refl _ _).alloc (Nat.le_refl _) _).alloc (by simp) _).drew).drew⟩

set_option maxHeartbeats 1000000 in
theorem next_b (b m g len cap s c : Nat) (d h n x0 x1 : Int) (w : World) (hz : 0 < w.heap.size) (hbz : b < w.heap.size) (hmz : m < w.heap.size) (hgz : g < w.heap.size)
    (hb0 : w.cell? ⟨b, 0, none⟩ = some (.pointer (some ⟨m, 0, none⟩))) (hb1 : w.cell? ⟨b, 1, none⟩ = some (.int .i64 s)) (hb2 : w.cell? ⟨b, 2, none⟩ = some (.int .i64 d)) (hb3 : w.cell? ⟨b, 3, none⟩ = some (.int .i64 h))
    (f1 : w.frozen? ⟨b, 1, none⟩ = false) (f2 : w.frozen? ⟨b, 2, none⟩ = false) (f3 : w.frozen? ⟨b, 3, none⟩ = false)
    (hm4 : w.cell? ⟨m, 4, none⟩ = some (.slice (some ⟨g, 0, none⟩) len cap)) (hs : s < len) (hg0 : w.cell? ⟨g, s * 2, none⟩ = some (.int .u8 c)) (hg1 : w.cell? ⟨g, s * 2 + 1, none⟩ = some (.int .i64 n)) (hc : c ≤ 4)
    (t0 : w.cell? ⟨0, c * 3, none⟩ = some (.int .i64 x0)) (t1 : w.cell? ⟨0, c * 3 + 1, none⟩ = some (.int .i64 x1)) (t2 : w.cell? ⟨0, c * 3 + 2, none⟩ = some (.int .i64 1))
    (hlen : len ≤ 65537) (hd0 : 0 ≤ d) (hd1 : d ≤ 65536) (hh0 : 0 ≤ h) (hh1 : h ≤ 65536) (hdn : ((d + 1 : Int) == n) = true) :
    Calls Tryd.prog 14 #[.pointer (some ⟨b, 0, none⟩)] w fun e w' => e = .returned (.int .i64 h) ∧ Below ((((w.setCell ⟨b, 3, none⟩ (.int .i64 (h + 1))).setCell ⟨b, 2, none⟩ (.int .i64 (d + 1))).setCell ⟨b, 1, none⟩ (.int .i64 (s + 1))).setCell ⟨b, 2, none⟩ (.int .i64 0)).heap.size ((((w.setCell ⟨b, 3, none⟩ (.int .i64 (h + 1))).setCell ⟨b, 2, none⟩ (.int .i64 (d + 1))).setCell ⟨b, 1, none⟩ (.int .i64 (s + 1))).setCell ⟨b, 2, none⟩ (.int .i64 0)) w' := by
  have hfl := field2
  go_enter Tryd.func14, Tryd.ntmps14
  go_wp2
  go_region
  go_wp2_with fail
  refine (rule_any c hc x0 x1 1 _ ?_ ?_ ?_ ?_).mono ?_
  · simp
  · go_simp
  · go_simp
  · go_simp
  rintro e w1 ⟨rfl, xs, rfl⟩
  go_wp2
  go_region
  go_wp2
  go_ret
  exact ⟨rfl, ((((Below.refl _ _).alloc (Nat.le_refl _) _).alloc (by simp) _).drew).drew⟩

set_option maxHeartbeats 1000000 in
theorem next_c (b m g len cap s c : Nat) (d h n x0 x1 : Int) (w : World) (hz : 0 < w.heap.size) (hbz : b < w.heap.size) (hmz : m < w.heap.size) (hgz : g < w.heap.size)
    (hb0 : w.cell? ⟨b, 0, none⟩ = some (.pointer (some ⟨m, 0, none⟩))) (hb1 : w.cell? ⟨b, 1, none⟩ = some (.int .i64 s)) (hb2 : w.cell? ⟨b, 2, none⟩ = some (.int .i64 d)) (hb3 : w.cell? ⟨b, 3, none⟩ = some (.int .i64 h))
    (f1 : w.frozen? ⟨b, 1, none⟩ = false) (f2 : w.frozen? ⟨b, 2, none⟩ = false) (f3 : w.frozen? ⟨b, 3, none⟩ = false)
    (hm4 : w.cell? ⟨m, 4, none⟩ = some (.slice (some ⟨g, 0, none⟩) len cap)) (hs : s < len) (hg0 : w.cell? ⟨g, s * 2, none⟩ = some (.int .u8 c)) (hg1 : w.cell? ⟨g, s * 2 + 1, none⟩ = some (.int .i64 n)) (hc : c ≤ 4)
    (t0 : w.cell? ⟨0, c * 3, none⟩ = some (.int .i64 x0)) (t1 : w.cell? ⟨0, c * 3 + 1, none⟩ = some (.int .i64 x1)) (t2 : w.cell? ⟨0, c * 3 + 2, none⟩ = some (.int .i64 0))
    (hlen : len ≤ 65537) (hd0 : 0 ≤ d) (hd1 : d ≤ 65536) (hh0 : 0 ≤ h) (hh1 : h ≤ 65536) (hdn : ((d + 1 : Int) == n) = false) :
    Calls Tryd.prog 14 #[.pointer (some ⟨b, 0, none⟩)] w fun e w' => e = .returned (.int .i64 (-1)) ∧ Below (w.setCell ⟨b, 2, none⟩ (.int .i64 (d + 1))).heap.size (w.setCell ⟨b, 2, none⟩ (.int .i64 (d + 1))) w' := by
  have hfl := field2
  go_enter Tryd.func14, Tryd.ntmps14
  go_wp2
  go_region
  go_wp2_with fail
  refine (rule_any c hc x0 x1 0 _ ?_ ?_ ?_ ?_).mono ?_
  · simp
  · go_simp
  · go_simp
  · go_simp
  rintro e w1 ⟨rfl, xs, rfl⟩
  go_wp2
  go_region
  go_wp2
  go_ret
  exact ⟨rfl, ((((Below.refl _ _).alloc (Nat.le_refl _) _).alloc (by simp) _).drew).drew⟩

set_option maxHeartbeats 1000000 in
theorem next_d (b m g len cap s c : Nat) (d h n x0 x1 : Int) (w : World) (hz : 0 < w.heap.size) (hbz : b < w.heap.size) (hmz : m < w.heap.size) (hgz : g < w.heap.size)
    (hb0 : w.cell? ⟨b, 0, none⟩ = some (.pointer (some ⟨m, 0, none⟩))) (hb1 : w.cell? ⟨b, 1, none⟩ = some (.int .i64 s)) (hb2 : w.cell? ⟨b, 2, none⟩ = some (.int .i64 d)) (hb3 : w.cell? ⟨b, 3, none⟩ = some (.int .i64 h))
    (f1 : w.frozen? ⟨b, 1, none⟩ = false) (f2 : w.frozen? ⟨b, 2, none⟩ = false) (f3 : w.frozen? ⟨b, 3, none⟩ = false)
    (hm4 : w.cell? ⟨m, 4, none⟩ = some (.slice (some ⟨g, 0, none⟩) len cap)) (hs : s < len) (hg0 : w.cell? ⟨g, s * 2, none⟩ = some (.int .u8 c)) (hg1 : w.cell? ⟨g, s * 2 + 1, none⟩ = some (.int .i64 n)) (hc : c ≤ 4)
    (t0 : w.cell? ⟨0, c * 3, none⟩ = some (.int .i64 x0)) (t1 : w.cell? ⟨0, c * 3 + 1, none⟩ = some (.int .i64 x1)) (t2 : w.cell? ⟨0, c * 3 + 2, none⟩ = some (.int .i64 0))
    (hlen : len ≤ 65537) (hd0 : 0 ≤ d) (hd1 : d ≤ 65536) (hh0 : 0 ≤ h) (hh1 : h ≤ 65536) (hdn : ((d + 1 : Int) == n) = true) :
    Calls Tryd.prog 14 #[.pointer (some ⟨b, 0, none⟩)] w fun e w' => e = .returned (.int .i64 (-1)) ∧ Below (((w.setCell ⟨b, 2, none⟩ (.int .i64 (d + 1))).setCell ⟨b, 1, none⟩ (.int .i64 (s + 1))).setCell ⟨b, 2, none⟩ (.int .i64 0)).heap.size (((w.setCell ⟨b, 2, none⟩ (.int .i64 (d + 1))).setCell ⟨b, 1, none⟩ (.int .i64 (s + 1))).setCell ⟨b, 2, none⟩ (.int .i64 0)) w' := by
  have hfl := field2
  go_enter Tryd.func14, Tryd.ntmps14
  go_wp2
  go_region
  go_wp2_with fail
  refine (rule_any c hc x0 x1 0 _ ?_ ?_ ?_ ?_).mono ?_
  · simp
  · go_simp
  · go_simp
  · go_simp
  rintro e w1 ⟨rfl, xs, rfl⟩
  go_wp2
  go_region
  go_wp2
  go_ret
  exact ⟨rfl, ((((Below.refl _ _).alloc (Nat.le_refl _) _).alloc (by simp) _).drew).drew⟩

end Go.Proofs.Qxb6615160aDoor
