/-
  DERIVED. Seat b6615160aD: the law's walk.
-/
import Derived.Test.Qxb6615160aDoorWalkC
import Derived.Laws.MakeOwn
import Derived.Deep.RegionWith
import Derived.Deep.LoopGhost
import Derived.Deep.CutRange
namespace Go.Proofs.Qxb6615160aDoor
open Go.RowKit
set_option linter.unusedVariables false

theorem info28 : (Tryd.prog.info? 28).map (fun i => (i.zero, i.size, i.bytes)) = some (some (.agg #[.int .u8 0, .int .i64 0]), 2, 16) := by kernel_rfl

theorem made_flat (n : Nat) : madeCells #[.int .u8 0, .int .i64 0] (n * 2) = (flat (List.replicate n (0, 0))).toArray := by
  apply Array.ext
  · rw [size_madeCells, List.size_toArray, flat_length, List.length_replicate]; omega
  · intro i h1 h2
    rw [size_madeCells] at h1
    have hh : i / 2 < n := by omega
    obtain ⟨e0, e1⟩ := flat_at (List.replicate n (0, 0)) (i / 2) (0, 0) (by simp [hh])
    have e : (madeCells #[Value.int .u8 0, .int .i64 0] (n * 2))[i] = #[Value.int .u8 0, .int .i64 0][i % 2]! := by simp [madeCells]
    rw [e]
    apply Option.some.inj
    rw [← Array.getElem?_eq_getElem h2, List.getElem?_toArray]
    by_cases hm : i % 2 = 0
    · rw [hm, show i = i / 2 * 2 by omega, e0]; rfl
    · rw [show i % 2 = 1 by omega, show i = i / 2 * 2 + 1 by omega, e1]; rfl

theorem run_make_steps (n : Nat) (hn : n ≤ 100000) (w : World) :
    (Instr.makeSlice 25 (.int .i64 (n : Int)) (.int .i64 (n : Int))).run Tryd.prog w = .ok (.slice (some ⟨w.heap.size, 0, none⟩) n n) (w.alloc (.cells (flat (List.replicate n (0, 0))).toArray 28)) := by
  obtain ⟨i, hi, hzz⟩ := Option.map_eq_some_iff.1 info28
  simp only [Prod.mk.injEq] at hzz
  obtain ⟨hz, hs, hb⟩ := hzz
  have h := run_make (P := Tryd.prog) w 25 28 i _ Tryd.underlying25 hi hz .i64 .i64 n n (by omega) (by omega) (by rw [hb]; omega) (by omega)
  rw [hs, Int.toNat_natCast] at h
  rw [h]
  show Result.ok _ (w.alloc (.cells (madeCells #[.int .u8 0, .int .i64 0] (n * 2)) 28)) = _
  rw [made_flat]

theorem run_le (L : List (Nat × Nat)) (k : Nat) (p : Nat × Nat) (hp : L[k]? = some p) (h : (expand L).length ≤ 65536) : p.2 ≤ 65536 := by
  rw [expand_split L k p hp] at h
  simp only [List.length_append, List.length_replicate] at h
  omega
theorem take_le (L : List (Nat × Nat)) (k : Nat) (h : (expand L).length ≤ 65536) : (expand (L.take k)).length ≤ 65536 := by
  have e : expand L = expand (L.take k) ++ expand (L.drop k) := by rw [← expand_append, List.take_append_drop]
  rw [e, List.length_append] at h
  omega
theorem cnt_le (E : List Nat) : cnt E ≤ E.length := List.length_filter_le _ _

theorem len_succ (L : List (Nat × Nat)) (k : Nat) (p : Nat × Nat) (hp : L[k]? = some p) : (expand (L.take (k + 1))).length = (expand (L.take k)).length + p.2 := by
  rw [expand_take_succ L k p hp, List.length_append, List.length_replicate]
theorem cnt_succ3 (L : List (Nat × Nat)) (k : Nat) (p : Nat × Nat) (hp : L[k]? = some p) (h : p.1 = 3) : cnt (expand (L.take (k + 1))) = cnt (expand (L.take k)) := by
  rw [expand_take_succ L k p hp, cnt_append, cnt_replicate, if_pos h]; rfl
theorem cnt_succ (L : List (Nat × Nat)) (k : Nat) (p : Nat × Nat) (hp : L[k]? = some p) (h : ¬ p.1 = 3) : cnt (expand (L.take (k + 1))) = cnt (expand (L.take k)) + p.2 := by
  rw [expand_take_succ L k p hp, cnt_append, cnt_replicate, if_neg h]

theorem new_at (sl : Option Addr) (len cap N : Nat) (w : World) (hN : w.heap.size = N) :
    Calls Tryd.prog 8 #[.slice sl len cap, .int .i64 0, .int .i64 0, .int .i64 0] w fun e w' => e = .returned (.pointer (some ⟨N + 1, 0, none⟩)) ∧
      (Below N w w' ∧ w'.heap.size = N + 2 ∧ WalkAt w' (N + 1) N (0 : Nat) (0 : Nat) (0 : Nat) ∧ w'.cell? ⟨N, 4, none⟩ = some (.slice sl len cap)) := by
  subst hN
  refine (new_any sl len cap w).mono ?_
  rintro e w' ⟨rfl, rfl⟩
  refine ⟨rfl, ((Below.refl _ _).alloc (Nat.le_refl _) _).alloc (by simp) _, by simp, ?_, ?_⟩
  · unfold WalkAt
    have h : (w.alloc (.cells #[.slice none 0 0, .int .i64 0, .int .i64 0, .nilIface, .slice sl len cap, .slice none 0 0, .slice none 0 0, .int .i64 0, .int .i64 0] 40)).heap.size = w.heap.size + 1 := by simp
    show ((w.alloc (.cells #[.slice none 0 0, .int .i64 0, .int .i64 0, .nilIface, .slice sl len cap, .slice none 0 0, .slice none 0 0, .int .i64 0, .int .i64 0] 40)).heap.push _)[w.heap.size + 1]? = _
    rw [← h, Array.getElem?_push_size]; rfl
  · go_simp

/-- Where the split row stands behind k rounds. -/
def jof (a k : Nat) : Nat := if k ≤ a then k else k + 1
/-- What the first loop has laid: the two rows. -/
structure LS (w : World) (L : List (Nat × Nat)) (a q k j : Nat) (wr : World) : Prop where
  bel : Below w.heap.size w wr
  rowA : ∃ A, Row wr w.heap.size A ∧ A.length = L.length ∧ ∀ x, x < k → A[x]? = L[x]?
  rowB : ∃ B, Row wr (w.heap.size + 1) B ∧ B.length = L.length + 1 ∧ ∀ x, x < j → B[x]? = (splitAt L a q)[x]?

theorem row_alloc (w : World) (L : List (Nat × Nat)) : Row (w.alloc (.cells (flat L).toArray 28)) w.heap.size L := by
  show (w.heap.push _)[w.heap.size]? = _; simp

theorem LS.start (w : World) (L : List (Nat × Nat)) (a q : Nat) : LS w L a q 0 0 ((w.alloc (.cells (flat (List.replicate L.length (0, 0))).toArray 28)).alloc (.cells (flat (List.replicate (L.length + 1) (0, 0))).toArray 28)) where
  bel := ((Below.refl _ _).alloc (Nat.le_refl _) _).alloc (by simp) _
  rowA := ⟨_, (row_alloc w _).below ((Below.refl _ _).alloc (Nat.le_refl _) _), by simp, fun x hx => absurd hx (Nat.not_lt_zero _)⟩
  rowB := by
    have h := row_alloc (w.alloc (.cells (flat (List.replicate L.length (0, 0))).toArray 28)) (List.replicate (L.length + 1) (0, 0))
    rw [show (w.alloc (.cells (flat (List.replicate L.length (0, 0))).toArray 28)).heap.size = w.heap.size + 1 by simp] at h
    exact ⟨_, h, by simp, fun x hx => absurd hx (Nat.not_lt_zero _)⟩

theorem below_set (w wr : World) (g : Nat) (hb : Below w.heap.size w wr) (hg : w.heap.size ≤ g) (i : Nat) (u v : Value) : Below w.heap.size w ((wr.setCell ⟨g, i * 2, none⟩ u).setCell ⟨g, i * 2 + 1, none⟩ v) :=
  (hb.setCell (p := ⟨g, i * 2, none⟩) hg u).setCell (p := ⟨g, i * 2 + 1, none⟩) hg v
theorem only_set (wr : World) (g i : Nat) (u v : Value) : Only g wr ((wr.setCell ⟨g, i * 2, none⟩ u).setCell ⟨g, i * 2 + 1, none⟩ v) := (Only.setCell g (i * 2) wr u).trans (Only.setCell g (i * 2 + 1) _ v)

theorem get_set (A L : List (Nat × Nat)) (k : Nat) (p : Nat × Nat) (hk : k < A.length) (hp : L[k]? = some p) (h : ∀ x, x < k → A[x]? = L[x]?) : ∀ x, x < k + 1 → (A.set k p)[x]? = L[x]? := by
  intro x hx
  by_cases e : x = k
  · subst e; rw [List.getElem?_set_self hk, hp]
  · rw [List.getElem?_set_ne (by omega), h x (by omega)]

/-- A store into the first row. -/
theorem LS.setA {w wr : World} {L : List (Nat × Nat)} {a q k j : Nat} (h : LS w L a q k j wr) (p : Nat × Nat) (hp : L[k]? = some p) {w' : World}
    (hw : Below ((wr.setCell ⟨w.heap.size, k * 2, none⟩ (.int .u8 (p.1 : Nat))).setCell ⟨w.heap.size, k * 2 + 1, none⟩ (.int .i64 (p.2 : Nat))).heap.size ((wr.setCell ⟨w.heap.size, k * 2, none⟩ (.int .u8 (p.1 : Nat))).setCell ⟨w.heap.size, k * 2 + 1, none⟩ (.int .i64 (p.2 : Nat))) w') : LS w L a q (k + 1) j w' := by
  obtain ⟨A, rA, lA, eA⟩ := h.rowA
  obtain ⟨B, rB, lB, eB⟩ := h.rowB
  have hk : k < L.length := (List.getElem?_eq_some_iff.1 hp).1
  have b1 := below_set w wr w.heap.size h.bel (Nat.le_refl _) k (.int .u8 (p.1 : Nat)) (.int .i64 (p.2 : Nat))
  exact ⟨b1.trans (hw.mono b1.size), ⟨_, (rA.set k p.1 p.2 (by omega)).below hw, by simpa using lA, get_set A L k p (by omega) hp eA⟩, ⟨B, (rB.only (only_set wr w.heap.size k _ _) (by omega)).below hw, lB, eB⟩⟩
/-- A store into the second row. -/
theorem LS.setB {w wr : World} {L : List (Nat × Nat)} {a q k j : Nat} (h : LS w L a q k j wr) (p : Nat × Nat) (hp : (splitAt L a q)[j]? = some p) (hj : j ≤ L.length) {w' : World}
    (hw : Below ((wr.setCell ⟨w.heap.size + 1, j * 2, none⟩ (.int .u8 (p.1 : Nat))).setCell ⟨w.heap.size + 1, j * 2 + 1, none⟩ (.int .i64 (p.2 : Nat))).heap.size ((wr.setCell ⟨w.heap.size + 1, j * 2, none⟩ (.int .u8 (p.1 : Nat))).setCell ⟨w.heap.size + 1, j * 2 + 1, none⟩ (.int .i64 (p.2 : Nat))) w') : LS w L a q k (j + 1) w' := by
  obtain ⟨A, rA, lA, eA⟩ := h.rowA
  obtain ⟨B, rB, lB, eB⟩ := h.rowB
  have b1 := below_set w wr (w.heap.size + 1) h.bel (by omega) j (.int .u8 (p.1 : Nat)) (.int .i64 (p.2 : Nat))
  exact ⟨b1.trans (hw.mono b1.size), ⟨A, (rA.only (only_set wr (w.heap.size + 1) j _ _) (by omega)).below hw, lA, eA⟩, ⟨_, (rB.set j p.1 p.2 (by omega)).below hw, by simpa using lB, get_set B (splitAt L a q) j p (by omega) hp eB⟩⟩

/-- What the walk wants to know of the two rows' cells, for a store at place i. -/
theorem LS.cellsA {w wr : World} {L : List (Nat × Nat)} {a q k j : Nat} (h : LS w L a q k j wr) (i : Nat) (hi : i < L.length) : (∃ v, wr.cell? ⟨w.heap.size, i * 2, none⟩ = some v) ∧ (∃ v, wr.cell? ⟨w.heap.size, i * 2 + 1, none⟩ = some v) ∧ wr.frozen? ⟨w.heap.size, i * 2, none⟩ = false ∧ wr.frozen? ⟨w.heap.size, i * 2 + 1, none⟩ = false := by
  obtain ⟨A, rA, lA, eA⟩ := h.rowA
  obtain ⟨p, hp⟩ : ∃ p, A[i]? = some p := ⟨_, List.getElem?_eq_getElem (by omega)⟩
  obtain ⟨h0, h1⟩ := rA.cells i p hp
  exact ⟨⟨_, h0⟩, ⟨_, h1⟩, rA.free _, rA.free _⟩
theorem LS.cellsB {w wr : World} {L : List (Nat × Nat)} {a q k j : Nat} (h : LS w L a q k j wr) (i : Nat) (hi : i ≤ L.length) : (∃ v, wr.cell? ⟨w.heap.size + 1, i * 2, none⟩ = some v) ∧ (∃ v, wr.cell? ⟨w.heap.size + 1, i * 2 + 1, none⟩ = some v) ∧ wr.frozen? ⟨w.heap.size + 1, i * 2, none⟩ = false ∧ wr.frozen? ⟨w.heap.size + 1, i * 2 + 1, none⟩ = false := by
  obtain ⟨B, rB, lB, eB⟩ := h.rowB
  obtain ⟨p, hp⟩ : ∃ p, B[i]? = some p := ⟨_, List.getElem?_eq_getElem (by omega)⟩
  obtain ⟨h0, h1⟩ := rB.cells i p hp
  exact ⟨⟨_, h0⟩, ⟨_, h1⟩, rB.free _, rB.free _⟩
theorem LS.lt {w wr : World} {L : List (Nat × Nat)} {a q k j : Nat} (h : LS w L a q k j wr) : w.heap.size + 1 < wr.heap.size := by
  obtain ⟨B, rB, _, _⟩ := h.rowB
  exact rB.lt

set_option maxHeartbeats 4000000 in
set_option maxRecDepth 20000 in
theorem main_core (b1 o1 b2 o2 len c1 c2 at' q : Nat) (L : List (Nat × Nat)) (w : World) (hT : Tab w) (hl : L.length = len) (hlen : len ≤ 65536) (hat : at' < len) (hq1 : 1 ≤ q) (hq2 : q < (L.getD at' (0, 0)).2)
    (hc1 : ∀ j p, L[j]? = some p → w.cell? ⟨b1, o1 + j, none⟩ = some (.int .u8 (p.1 : Nat))) (hc2 : ∀ j p, L[j]? = some p → w.cell? ⟨b2, o2 + j, none⟩ = some (.int .i64 (p.2 : Nat))) (hpos : ∀ p ∈ L, 1 ≤ p.2) (h4 : ∀ p ∈ L, p.1 ≤ 4) (htot : (expand L).length ≤ 65536)
    (HB : Calls Tryd.prog 13 #[.slice (some ⟨b1, o1, none⟩) len c1, .slice (some ⟨b2, o2, none⟩) len c2, .int .i64 at', .int .i64 q] w fun e w' => RetB e ∧ w = w')
    (HF : Calls Tryd.prog 6 #[.slice (some ⟨b1, o1, none⟩) len c1, .slice (some ⟨b2, o2, none⟩) len c2] w fun e w' => RetB e ∧ w = w') :
    Calls Tryd.prog 4 #[.slice (some ⟨b1, o1, none⟩) len c1, .slice (some ⟨b2, o2, none⟩) len c2, .int .i64 at', .int .i64 q] w fun e w' => e = .returned (.bool true) ∧ Below w.heap.size w w' := by
  have hm1 : ∀ W : World, _ := fun W => run_make_steps len (by omega) W
  have hm2 : ∀ W : World, _ := fun W => run_make_steps (len + 1) (by omega) W
  have e1 : ((len + 1 : Nat) : Int) = (len : Int) + 1 := by omega
  simp only [e1] at hm2
  obtain ⟨A0, hA0⟩ : ∃ A, A = (flat (List.replicate len (0, 0))).toArray := ⟨_, rfl⟩
  obtain ⟨B0, hB0⟩ : ∃ A, A = (flat (List.replicate (len + 1) (0, 0))).toArray := ⟨_, rfl⟩
  simp only [← hA0] at hm1
  simp only [← hB0] at hm2
  have HA0 : Hid _ := hA0
  have HB0 : Hid _ := hB0
  clear hA0 hB0
  obtain ⟨pa, hpa⟩ : ∃ p, L[at']? = some p := ⟨_, List.getElem?_eq_getElem (by omega)⟩
  have hga : L.getD at' (0, 0) = pa := by rw [List.getD_eq_getElem?_getD, hpa]; rfl
  rw [hga] at hq2
  have hn := hc2 at' pa hpa
  have HL : Hid _ := hl
  have HC1 : Hid _ := hc1
  have HC2 : Hid _ := hc2
  have HPA : Hid _ := hpa
  have HGA : Hid _ := hga
  have hTab : Hid (Tab w) := hT
  have HPos : Hid _ := hpos
  have H4 : Hid _ := h4
  have HB' : Hid _ := HB
  have HF' : Hid _ := HF
  clear hl hc1 hc2 hpa hga e1 hT hpos h4 HB HF
  have hd54 : decide (pa.2 ≤ q) = false := by simp; omega
  have hd44 : decide (len ≤ at') = false := by simp; omega
  have hd47 : decide ((q : Int) < 1) = false := by simp; omega
  have hd39 : decide ((at' : Int) < 0) = false := by simp
  have hd28 : decide ((65536 : Int) < (len : Int)) = false := by simp; omega
  go_enter Tryd.func4, Tryd.ntmps4
  go_wp2_with fail
  refine Calls.mono HB'.out ?_
  rintro e w' ⟨⟨bb, rfl⟩, rfl⟩
  cases bb
  · go_wp2
    go_ret
    exact ⟨rfl, Below.refl _ _⟩
  go_wp2_with fail
  refine Calls.mono HF'.out ?_
  rintro e w' ⟨⟨bb, rfl⟩, rfl⟩
  cases bb
  · go_wp2
    go_ret
    exact ⟨rfl, Below.refl _ _⟩
  go_wp2_with fail
  go_loopg [11, 12, 13, 14] len (fun gk tt hh jj i wr => ∃ k : Nat, gk + k = len ∧ i = .int .i64 k ∧ jj = .int .i64 (jof at' k : Nat) ∧ tt = .int .i64 ((expand (L.take k)).length : Nat) ∧ hh = .int .i64 (cnt (expand (L.take k)) : Nat) ∧ LS w L at' q k (jof at' k) wr)
  case atStart =>
    refine ⟨0, by omega, rfl, by simp [jof], by simp [expand], by simp [expand, cnt], ?_⟩
    rw [HA0.out, HB0.out, ← HL.out]
    simpa [jof] using LS.start w L at' q
  case round =>
    obtain ⟨k, hk, rfl, rfl, rfl, rfl, hls⟩ := hrel
    by_cases hlt : k < len
    · obtain ⟨p, hp⟩ : ∃ p, L[k]? = some p := ⟨_, List.getElem?_eq_getElem (by rw [HL.out]; exact hlt)⟩
      have cc := HC1.out k p hp
      have cn := HC2.out k p hp
      have z1 : b1 < w.heap.size := block_lt_of_cell cc
      have z2 : b2 < w.heap.size := block_lt_of_cell cn
      have z3 := hls.lt
      have z4 : w.heap.size < wr.heap.size := by omega
      have z5 : b1 < wr.heap.size := by omega
      have z6 : b2 < wr.heap.size := by omega
      have rc : wr.cell? ⟨b1, o1 + k, none⟩ = some (.int .u8 (p.1 : Nat)) := by rw [hls.bel.cell (p := ⟨b1, o1 + k, none⟩) z1]; exact cc
      have rn : wr.cell? ⟨b2, o2 + k, none⟩ = some (.int .i64 (p.2 : Nat)) := by rw [hls.bel.cell (p := ⟨b2, o2 + k, none⟩) z2]; exact cn
      obtain ⟨⟨va, ha0⟩, ⟨vb, ha1⟩, fa0, fa1⟩ := hls.cellsA k (by rw [HL.out]; exact hlt)
      have hjb : jof at' k ≤ len := by unfold jof; split <;> omega
      have hp2 : p.2 ≤ 65536 := run_le L k p hp htot
      have htk : (expand (L.take k)).length ≤ 65536 := take_le L k htot
      have hck : cnt (expand (L.take k)) ≤ 65536 := Nat.le_trans (cnt_le _) htk
      have HLS : Hid _ := hls
      have HP : Hid _ := hp
      have HCC : Hid _ := cc
      have HCN : Hid _ := cn
      clear hls hp cc cn
      go_upto_region 19 with fail
      go_cut [] from 63 to 139 (fun wx => LS w L at' q (k + 1) (jof at' k) wx)
      case first =>
        go_region_with (go_at_call 7; refine (step_any _ _ _).mono ?_; rintro e w' ⟨rfl, xs, rfl⟩)
        all_goals
          go_wp2_with fail
          go_meet
          exact HLS.out.setA p HP.out (((Below.refl _ _).alloc (Nat.le_refl _) _).drew)
      case rest =>
        clear rc rn ha0 ha1 fa0 fa1 z3 z4 z5 z6 HLS
        by_cases hka : k = at'
        · have HJ : Hid (jof at' k = k) := by show jof at' k = k; unfold jof; rw [if_pos (by omega)]
          have hkb : ((k : Int) == (at' : Int)) = true := by simp [hka]
          have HKA : Hid (k = at') := hka
          clear hka
          have z3 := hcut.lt
          have z4 : w.heap.size < wc.heap.size := by omega
          have z5 : b1 < wc.heap.size := by omega
          have z6 : b2 < wc.heap.size := by omega
          have rc : wc.cell? ⟨b1, o1 + k, none⟩ = some (.int .u8 (p.1 : Nat)) := by rw [hcut.bel.cell (p := ⟨b1, o1 + k, none⟩) z1]; exact HCC.out
          have rn : wc.cell? ⟨b2, o2 + k, none⟩ = some (.int .i64 (p.2 : Nat)) := by rw [hcut.bel.cell (p := ⟨b2, o2 + k, none⟩) z2]; exact HCN.out
          obtain ⟨⟨va, ha0⟩, ⟨vb, ha1⟩, fa0, fa1⟩ := hcut.cellsB (jof at' k) (by rw [HL.out]; exact hjb)
          have HLS : Hid _ := hcut
          clear hcut
          go_upto_region 21 with fail
          go_cut [] from 63 to 139 (fun wx => LS w L at' q (k + 1) (jof at' k + 1) wx)
          case first =>
            go_wp2_with (go_at_call 7; refine (step_any _ _ _).mono ?_; rintro e w' ⟨rfl, xs, rfl⟩)
            go_meet
            refine HLS.out.setB (p.1, q) ?_ (by rw [HL.out]; exact hjb) ((Below.refl _ _).alloc (Nat.le_refl _) _)
            rw [HJ.out, HKA.out, splitAt_at L at' q (by rw [HL.out]; exact hat), HGA.out]
            have : pa = p := Option.some.inj (HPA.out.symm.trans (by rw [← HKA.out]; exact HP.out))
            rw [this]
          case rest =>
            clear rc rn ha0 ha1 fa0 fa1 z3 z4 z5 z6 HLS
            have hj1 : jof at' k + 1 ≤ len := by rw [HJ.out]; omega
            have z3 := hcut.lt
            have z4 : w.heap.size < wc.heap.size := by omega
            have z5 : b1 < wc.heap.size := by omega
            have z6 : b2 < wc.heap.size := by omega
            have rc : wc.cell? ⟨b1, o1 + k, none⟩ = some (.int .u8 (p.1 : Nat)) := by rw [hcut.bel.cell (p := ⟨b1, o1 + k, none⟩) z1]; exact HCC.out
            have rn : wc.cell? ⟨b2, o2 + k, none⟩ = some (.int .i64 (p.2 : Nat)) := by rw [hcut.bel.cell (p := ⟨b2, o2 + k, none⟩) z2]; exact HCN.out
            obtain ⟨⟨va, ha0⟩, ⟨vb, ha1⟩, fa0, fa1⟩ := hcut.cellsB (jof at' k + 1) (by rw [HL.out]; omega)
            have HLS : Hid _ := hcut
            clear hcut
            have hsub : q ≤ p.2 := by
              have : pa = p := Option.some.inj (HPA.out.symm.trans (by rw [← HKA.out]; exact HP.out))
              rw [← this]; omega
            go_upto_region 23 with fail
            go_cut [] from 63 to 139 (fun wx => LS w L at' q (k + 1) (jof at' k + 1 + 1) wx)
            case first =>
              go_region_with (go_at_call 7; refine (step_any _ _ _).mono ?_; rintro e w' ⟨rfl, xs, rfl⟩)
              all_goals
                go_wp2_with fail
                go_meet
                have e2 : ((p.2 : Int) - (q : Int)) = ((p.2 - q : Nat) : Int) := by omega
                rw [e2]
                refine HLS.out.setB (p.1, p.2 - q) ?_ (by rw [HL.out]; exact hj1) (((Below.refl _ _).alloc (Nat.le_refl _) _).drew)
                have : pa = p := Option.some.inj (HPA.out.symm.trans (by rw [← HKA.out]; exact HP.out))
                rw [HJ.out, HKA.out, splitAt_at1 L at' q (by rw [HL.out]; exact hat), HGA.out, this]
            case rest =>
              clear rc rn ha0 ha1 fa0 fa1 z3 z4 z5 z6 HLS
              have z3 := hcut.lt
              have z4 : w.heap.size < wc.heap.size := by omega
              have z5 : b1 < wc.heap.size := by omega
              have z6 : b2 < wc.heap.size := by omega
              have rc : wc.cell? ⟨b1, o1 + k, none⟩ = some (.int .u8 (p.1 : Nat)) := by rw [hcut.bel.cell (p := ⟨b1, o1 + k, none⟩) z1]; exact HCC.out
              have rn : wc.cell? ⟨b2, o2 + k, none⟩ = some (.int .i64 (p.2 : Nat)) := by rw [hcut.bel.cell (p := ⟨b2, o2 + k, none⟩) z2]; exact HCN.out
              have HLS : Hid _ := hcut
              clear hcut
              have HJJ : Hid (jof at' (k + 1) = jof at' k + 1 + 1) := by show jof at' (k + 1) = _; rw [HJ.out]; unfold jof; rw [if_neg (by have := HKA.out; omega)]
              by_cases hp3 : p.1 = 3
              · have hp3' : ((p.1 : Int) == 3) = true := by simp [hp3]
                have HP3 : Hid _ := hp3
                clear hp3
                go_wp2
                go_roundg (gk - 1)
                case measure => omega
                case rel => exact ⟨k + 1, by omega, by go_num, by rw [HJJ.out]; go_num, by rw [len_succ L k p HP.out]; go_num, by rw [cnt_succ3 L k p HP.out HP3.out], by rw [HJJ.out]; exact HLS.out⟩
              · have hp3' : ((p.1 : Int) == 3) = false := by simp; omega
                have HP3 : Hid _ := hp3
                clear hp3
                go_wp2
                go_roundg (gk - 1)
                case measure => omega
                case rel => exact ⟨k + 1, by omega, by go_num, by rw [HJJ.out]; go_num, by rw [len_succ L k p HP.out]; go_num, by rw [cnt_succ L k p HP.out HP3.out]; go_num, by rw [HJJ.out]; exact HLS.out⟩
        · have hkb : ((k : Int) == (at' : Int)) = false := by simp; omega
          have HKA : Hid (¬ k = at') := hka
          clear hka
          have HJJ : Hid (jof at' (k + 1) = jof at' k + 1) := by
            show jof at' (k + 1) = _
            have := HKA.out
            unfold jof
            by_cases h : k ≤ at'
            · rw [if_pos h, if_pos (by omega)]
            · rw [if_neg h, if_neg (by omega)]
          have HSP : Hid ((splitAt L at' q)[jof at' k]? = some p) := by
            show (splitAt L at' q)[jof at' k]? = some p
            have := HKA.out
            unfold jof
            by_cases h : k ≤ at'
            · rw [if_pos h, splitAt_lo L at' q k (by omega) (by rw [HL.out]; exact hat)]; exact HP.out
            · rw [if_neg h, splitAt_hi L at' q k (by omega) (by rw [HL.out]; exact hat)]; exact HP.out
          have z3 := hcut.lt
          have z4 : w.heap.size < wc.heap.size := by omega
          have z5 : b1 < wc.heap.size := by omega
          have z6 : b2 < wc.heap.size := by omega
          have rc : wc.cell? ⟨b1, o1 + k, none⟩ = some (.int .u8 (p.1 : Nat)) := by rw [hcut.bel.cell (p := ⟨b1, o1 + k, none⟩) z1]; exact HCC.out
          have rn : wc.cell? ⟨b2, o2 + k, none⟩ = some (.int .i64 (p.2 : Nat)) := by rw [hcut.bel.cell (p := ⟨b2, o2 + k, none⟩) z2]; exact HCN.out
          obtain ⟨⟨va, ha0⟩, ⟨vb, ha1⟩, fa0, fa1⟩ := hcut.cellsB (jof at' k) (by rw [HL.out]; omega)
          have HLS : Hid _ := hcut
          clear hcut
          go_upto_region 24 with fail
          go_cut [] from 63 to 139 (fun wx => LS w L at' q (k + 1) (jof at' k + 1) wx)
          case first =>
            go_region_with (go_at_call 7; refine (step_any _ _ _).mono ?_; rintro e w' ⟨rfl, xs, rfl⟩)
            all_goals
              go_wp2_with fail
              go_meet
              exact HLS.out.setB p HSP.out (by rw [HL.out]; exact hjb) (((Below.refl _ _).alloc (Nat.le_refl _) _).drew)
          case rest =>
            clear rc rn ha0 ha1 fa0 fa1 z3 z4 z5 z6 HLS
            have z3 := hcut.lt
            have z4 : w.heap.size < wc.heap.size := by omega
            have z5 : b1 < wc.heap.size := by omega
            have z6 : b2 < wc.heap.size := by omega
            have rc : wc.cell? ⟨b1, o1 + k, none⟩ = some (.int .u8 (p.1 : Nat)) := by rw [hcut.bel.cell (p := ⟨b1, o1 + k, none⟩) z1]; exact HCC.out
            have rn : wc.cell? ⟨b2, o2 + k, none⟩ = some (.int .i64 (p.2 : Nat)) := by rw [hcut.bel.cell (p := ⟨b2, o2 + k, none⟩) z2]; exact HCN.out
            have HLS : Hid _ := hcut
            clear hcut
            by_cases hp3 : p.1 = 3
            · have hp3' : ((p.1 : Int) == 3) = true := by simp [hp3]
              have HP3 : Hid _ := hp3
              clear hp3
              go_wp2
              go_roundg (gk - 1)
              case measure => omega
              case rel => exact ⟨k + 1, by omega, by go_num, by rw [HJJ.out]; go_num, by rw [len_succ L k p HP.out]; go_num, by rw [cnt_succ3 L k p HP.out HP3.out], by rw [HJJ.out]; exact HLS.out⟩
            · have hp3' : ((p.1 : Int) == 3) = false := by simp; omega
              have HP3 : Hid _ := hp3
              clear hp3
              go_wp2
              go_roundg (gk - 1)
              case measure => omega
              case rel => exact ⟨k + 1, by omega, by go_num, by rw [HJJ.out]; go_num, by rw [len_succ L k p HP.out]; go_num, by rw [cnt_succ L k p HP.out HP3.out]; go_num, by rw [HJJ.out]; exact HLS.out⟩
    · obtain rfl : k = len := by omega
      have hTr : Tab wr := hTab.out.below hls.bel hTab.out.lt
      have hbel := hls.bel
      obtain ⟨A, rA, lA, eA⟩ := hls.rowA
      obtain ⟨B, rB, lB, eB⟩ := hls.rowB
      have hLk : L.length = k := HL.out
      have hM : (splitAt L at' q).length = k + 1 := by rw [splitAt_length L at' q (by omega), hLk]
      obtain rfl : A = L := List.ext_getElem? fun x => by
        by_cases hx : x < k
        · exact eA x hx
        · rw [List.getElem?_eq_none (by omega), List.getElem?_eq_none (by omega)]
      have hjl : jof at' k = k + 1 := by unfold jof; rw [if_neg (by omega)]
      obtain ⟨M, hMM⟩ : ∃ M, M = splitAt A at' q := ⟨_, rfl⟩
      rw [← hMM] at hM
      obtain rfl : B = M := List.ext_getElem? fun x => by
        by_cases hx : x < k + 1
        · rw [hMM]; exact eB x (by rw [hjl]; exact hx)
        · rw [List.getElem?_eq_none (by omega), List.getElem?_eq_none (by omega)]
      have hEE : expand B = expand A := by rw [hMM]; exact expand_splitAt A at' q (by omega) (by rw [HGA.out]; exact hq2)
      have hBpos : ∀ p ∈ B, 1 ≤ p.2 := by rw [hMM]; exact splitAt_pos A at' q (by omega) hq1 (by rw [HGA.out]; exact hq2) HPos.out
      have hB4 : ∀ p ∈ B, p.1 ≤ 4 := by rw [hMM]; exact splitAt_le4 A at' q (by omega) H4.out
      obtain ⟨T, hTT⟩ : ∃ T, (expand A).length = T := ⟨_, rfl⟩
      obtain ⟨H, hHH⟩ : ∃ H, cnt (expand A) = H := ⟨_, rfl⟩
      have hHT : H ≤ T := by rw [← hHH, ← hTT]; exact cnt_le _
      rw [hTT] at htot
      have eT : List.take k A = A := by rw [← hLk, List.take_length]
      rw [eT, hTT, hHH]
      have F : Hid (Tab wr ∧ Below w.heap.size w wr ∧ Row wr w.heap.size A ∧ Row wr (w.heap.size + 1) B ∧ A.length = k ∧ B.length = k + 1 ∧ expand B = expand A ∧ (∀ p ∈ B, 1 ≤ p.2) ∧ (∀ p ∈ B, p.1 ≤ 4) ∧ (expand A).length = T ∧ cnt (expand A) = H) := ⟨hTr, hbel, rA, rB, hLk, hM, hEE, hBpos, hB4, hTT, hHH⟩
      have hz0 := rB.lt
      clear hls hm1 hm2 hn hTr hbel rA lA eA rB lB eB hLk hM hjl hMM hEE hBpos hB4 hTT hHH eT
      obtain ⟨N, hN⟩ : ∃ N, wr.heap.size = N := ⟨_, rfl⟩
      have hNz : w.heap.size + 1 < N := by omega
      have HN : Hid _ := hN
      clear hN hz0
      go_wp2_with fail
      refine (new_at _ _ _ N _ HN.out).mono ?_
      rintro e w1 ⟨rfl, G1⟩
      have HG1 : Hid _ := G1
      clear G1
      go_wp2_with fail
      refine (new_at _ _ _ (N + 2) _ HG1.out.2.1).mono ?_
      rintro e w2 ⟨rfl, G2⟩
      have HG2 : Hid _ := G2
      clear G2
      go_wp2_with fail
      obtain ⟨wo, hwo⟩ : ∃ wo : World, wo = wr := ⟨_, rfl⟩
      go_loopg [17] T (fun gk t wx => ∃ x : Nat, gk + x = T ∧ t = .int .i64 x ∧ Hid (∃ s d h s' d' h', St A x s d h ∧ St B x s' d' h' ∧ On wx (N + 1) N w.heap.size A s d h ∧ On wx (N + 3) (N + 2) (w.heap.size + 1) B s' d' h' ∧ Below w.heap.size w wx ∧ Tab wx))
      case atStart =>
        obtain ⟨hTr, hbel, rA, rB, hLk, hM, hEE, hBpos, hB4, hTT, hHH⟩ := F.out
        obtain ⟨g1, g2, g3, g4⟩ := HG1.out
        obtain ⟨k1, k2, k3, k4⟩ := HG2.out
        have hN := HN.out
        have hw1 : Below wr.heap.size wr w1 := by rw [hN]; exact g1
        have hw2 : Below w1.heap.size w1 w2 := by rw [g2]; exact k1
        refine ⟨0, by omega, rfl, ⟨0, 0, 0, 0, 0, 0, St.zero A HPos.out, St.zero B hBpos, ⟨g3.below hw2, ?_, (rA.below hw1).below hw2⟩, ⟨k3, ?_, (rB.below hw1).below hw2⟩, ?_, ?_⟩⟩
        · rw [hLk, hw2.cell (p := ⟨N, 4, none⟩) (show N < w1.heap.size by omega)]; exact g4
        · rw [hM]; exact k4
        · exact (hbel.trans (hw1.mono (by omega))).trans (hw2.mono (by omega))
        · exact (hTr.below hw1 hTr.lt).below hw2 (by omega)
      case round =>
        obtain ⟨x, hx, rfl, hst⟩ := hrel
        by_cases hlt : x < T
        · obtain ⟨s, d, h, s', d', h', st1, st2, on1, on2, hb, htb⟩ := hst.out
          obtain ⟨hTr, hbel, rA, rB, hLk, hM, hEE, hBpos, hB4, hTT, hHH⟩ := F.out
          have c1 := next_any (N + 1) N w.heap.size A x s d h wr htb on1 st1 (by omega) HPos.out H4.out (by omega) (by omega) (by omega) (by omega)
          have C1 : Hid _ := c1
          clear st1 on1 hTr hbel rA rB c1
          have HR : Hid _ := And.intro hLk (And.intro hM (And.intro hEE (And.intro hBpos (And.intro hB4 hTT))))
          have HS : Hid _ := And.intro st2 (And.intro on2 (And.intro hb htb))
          clear hLk hM hEE hBpos hB4 hTT hHH st2 on2 hb htb hst
          go_wp2_with fail
          refine Calls.mono C1.out ?_
          rintro e wa ⟨rfl, sa, da, ha, sta, ona, oa⟩
          obtain ⟨hLk, hM, hEE, hBpos, hB4, hTT⟩ := HR.out
          obtain ⟨st2, on2, hb, htb⟩ := HS.out
          have c2 := next_any (N + 3) (N + 2) (w.heap.size + 1) B x s' d' h' wa (htb.only oa (by omega)) (on2.only oa (by omega) (by omega) (by omega)) st2 (by rw [hEE]; omega) hBpos hB4 (by omega) (by omega) (by omega) (by omega)
          rw [hEE] at c2
          have C2 : Hid _ := c2
          have HQ : Hid _ := And.intro sta (And.intro ona oa)
          clear sta ona oa c2 hLk hM hEE hBpos hB4 hTT st2 on2 hb htb
          go_wp2_with fail
          refine Calls.mono C2.out ?_
          rintro e wb ⟨rfl, sb, db, hb', stb, onb, ob⟩
          have HQ2 : Hid _ := And.intro stb (And.intro onb ob)
          clear stb onb ob
          go_wp2
          go_roundg (gk - 1)
          case measure => omega
          case rel =>
            obtain ⟨sta, ona, oa⟩ := HQ.out
            obtain ⟨stb, onb, ob⟩ := HQ2.out
            obtain ⟨st2, on2, hb, htb⟩ := HS.out
            have hsz := hb.size
            have hsz2 := oa.size
            refine ⟨x + 1, by omega, by go_num, ⟨_, _, _, _, _, _, sta, stb, ona.only ob (by omega) (by omega) (by omega), onb, ?_, (htb.only oa (by omega)).only ob (by omega)⟩⟩
            exact (hb.trans ((oa.below (B := w.heap.size) (by omega) hsz))).trans (ob.below (by omega) (by omega))
        · obtain rfl : x = T := by omega
          obtain ⟨s, d, h, s', d', h', st1, st2, on1, on2, hb, htb⟩ := hst.out
          obtain ⟨hTr, hbel, rA, rB, hLk, hM, hEE, hBpos, hB4, hTT, hHH⟩ := F.out
          obtain ⟨rfl, rfl, rfl⟩ := St.done (L := A) (by rw [hTT]; exact st1)
          obtain ⟨rfl, rfl, rfl⟩ := St.done (L := B) (by rw [hEE, hTT]; exact st2)
          rw [hEE] at on2
          rw [hHH] at on1 on2
          obtain ⟨-, p1, p2, p3, -, -, -⟩ := on1.at_.cells
          obtain ⟨-, q1, q2, q3, -, -, -⟩ := on2.at_.cells
          rw [hLk] at p1
          rw [hM] at q1
          have hbB : Hid _ := hb
          clear on1 on2 st1 st2 hTr hbel rA rB hLk hM hEE hBpos hB4 hTT hHH hb htb hst
          go_wp2_with fail
          refine (getStep _ _ _ p1).mono ?_
          rintro e w3 ⟨rfl, rfl⟩
          go_wp2_with fail
          refine (getStep _ _ _ q1).mono ?_
          rintro e w3 ⟨rfl, rfl⟩
          go_wp2_with fail
          refine (getDone _ _ _ p2).mono ?_
          rintro e w3 ⟨rfl, rfl⟩
          go_wp2_with fail
          refine (getDone _ _ _ q2).mono ?_
          rintro e w3 ⟨rfl, rfl⟩
          go_wp2_with fail
          refine (getHeld _ _ _ p3).mono ?_
          rintro e w3 ⟨rfl, rfl⟩
          go_wp2_with fail
          refine (getHeld _ _ _ q3).mono ?_
          rintro e w3 ⟨rfl, rfl⟩
          go_wp2
          go_ret
          exact ⟨rfl, hbB.out⟩

end Go.Proofs.Qxb6615160aDoor
