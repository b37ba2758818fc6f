/-
  DERIVED. Seat b6615160aD: 'next' as one contract; 'zzStepsFit'.
-/
import Derived.Test.Qxb6615160aDoorWalkB
import Derived.Test.Qxb6615160aDoorPlain
namespace Go.Proofs.Qxb6615160aDoor
open Go.RowKit
set_option linter.unusedVariables false

/-- The table of rules, as the program's text lays it: what 'next' asks of it. -/
def Tab (w : World) : Prop := ∀ c : Nat, c ≤ 4 → ∃ x0 x1, w.cell? ⟨0, c * 3, none⟩ = some (.int .i64 x0) ∧ w.cell? ⟨0, c * 3 + 1, none⟩ = some (.int .i64 x1) ∧ w.cell? ⟨0, c * 3 + 2, none⟩ = some (.int .i64 (if c = 3 then 0 else 1))

def flat (L : List (Nat × Nat)) : List Value := L.flatMap fun p => [.int .u8 p.1, .int .i64 p.2]
/-- A row of steps in memory. -/
def Row (w : World) (g : Nat) (L : List (Nat × Nat)) : Prop := w.heap[g]? = some (.cells (flat L).toArray 28 (0, 0))

theorem flat_length (L : List (Nat × Nat)) : (flat L).length = 2 * L.length := by
  induction L with
  | nil => rfl
  | cons p L ih =>
    have : flat (p :: L) = .int .u8 p.1 :: .int .i64 p.2 :: flat L := by simp [flat]
    rw [this, List.length_cons, List.length_cons, ih, List.length_cons]; omega
theorem flat_cons (p : Nat × Nat) (L : List (Nat × Nat)) : flat (p :: L) = .int .u8 p.1 :: .int .i64 p.2 :: flat L := by simp [flat]
theorem flat_at (L : List (Nat × Nat)) (i : Nat) (p : Nat × Nat) (h : L[i]? = some p) : (flat L)[i * 2]? = some (.int .u8 p.1) ∧ (flat L)[i * 2 + 1]? = some (.int .i64 p.2) := by
  induction L generalizing i with
  | nil => simp at h
  | cons q L ih =>
    rw [flat_cons]
    cases i with
    | zero =>
      simp at h; subst h
      exact ⟨rfl, rfl⟩
    | succ i =>
      rw [List.getElem?_cons_succ] at h
      have := ih i h
      rw [show (i + 1) * 2 = i * 2 + 1 + 1 by omega]
      simpa [List.getElem?_cons_succ] using this
theorem flat_set (L : List (Nat × Nat)) (i : Nat) (p : Nat × Nat) (hi : i < L.length) : ((flat L).set (i * 2) (.int .u8 p.1)).set (i * 2 + 1) (.int .i64 p.2) = flat (L.set i p) := by
  induction L generalizing i with
  | nil => simp at hi
  | cons q L ih =>
    cases i with
    | zero => rw [flat_cons, show (q :: L).set 0 p = p :: L from rfl, flat_cons]; rfl
    | succ i =>
      rw [flat_cons, List.set_cons_succ, flat_cons, show (i + 1) * 2 = i * 2 + 1 + 1 by omega]
      simp only [List.set_cons_succ]
      rw [ih i (by simpa using hi)]

theorem Row.lt {w : World} {g : Nat} {L : List (Nat × Nat)} (k : Row w g L) : g < w.heap.size := (Array.getElem?_eq_some_iff.1 k).1
theorem Row.cells {w : World} {g : Nat} {L : List (Nat × Nat)} (k : Row w g L) (i : Nat) (p : Nat × Nat) (h : L[i]? = some p) : w.cell? ⟨g, i * 2, none⟩ = some (.int .u8 p.1) ∧ w.cell? ⟨g, i * 2 + 1, none⟩ = some (.int .i64 p.2) := by
  obtain ⟨h1, h2⟩ := flat_at L i p h
  unfold Row at k
  simp [World.cell?, k, h1, h2]
theorem Row.free {w : World} {g : Nat} {L : List (Nat × Nat)} (k : Row w g L) (i : Nat) : w.frozen? ⟨g, i, none⟩ = false := by
  unfold Row at k
  simp [World.frozen?, k]
theorem Row.set {w : World} {g : Nat} {L : List (Nat × Nat)} (k : Row w g L) (i : Nat) (c n : Nat) (hi : i < L.length) : Row ((w.setCell ⟨g, i * 2, none⟩ (.int .u8 c)).setCell ⟨g, i * 2 + 1, none⟩ (.int .i64 n)) g (L.set i (c, n)) := by
  have h1 : (w.setCell ⟨g, i * 2, none⟩ (.int .u8 c)).heap[g]? = some (.cells ((flat L).toArray.setIfInBounds (i * 2) (.int .u8 c)) 28 (0, 0)) := by
    rw [setCell_eq_setRow w g _ _ 28 (0, 0) _ k]
    exact setRow_heap w g _ _ 28 _ k
  have h2 := setRow_heap _ g _ (((flat L).toArray.setIfInBounds (i * 2) (.int .u8 c)).setIfInBounds (i * 2 + 1) (.int .i64 n)) 28 _ h1
  rw [← setCell_eq_setRow _ g _ _ 28 (0, 0) _ h1] at h2
  unfold Row
  rw [h2, ← flat_set L i (c, n) hi]
  simp
theorem Row.below {w w' : World} {g : Nat} {L : List (Nat × Nat)} (k : Row w g L) (hb : Below w.heap.size w w') : Row w' g L := (hb.block g k.lt).trans k
theorem Row.only {w w' : World} {g b : Nat} {L : List (Nat × Nat)} (k : Row w g L) (hb : Only b w w') (hne : g ≠ b) : Row w' g L := (hb.block g k.lt hne).trans k

theorem Tab.lt {w : World} (h : Tab w) : 0 < w.heap.size := by
  obtain ⟨_, _, h0, _⟩ := h 0 (by omega)
  exact block_lt_of_cell h0
theorem Tab.only {w w' : World} {b : Nat} (h : Tab w) (ho : Only b w w') (hb : 0 ≠ b) : Tab w' := fun c hc => by
  obtain ⟨x0, x1, h0, h1, h2⟩ := h c hc
  have hz := h.lt
  exact ⟨x0, x1, by rw [ho.cell (p := ⟨0, c * 3, none⟩) hz hb]; exact h0, by rw [ho.cell (p := ⟨0, c * 3 + 1, none⟩) hz hb]; exact h1, by rw [ho.cell (p := ⟨0, c * 3 + 2, none⟩) hz hb]; exact h2⟩
theorem Tab.below {w w' : World} {B : Nat} (h : Tab w) (hb : Below B w w') (hB : 0 < B) : Tab w' := fun c hc => by
  obtain ⟨x0, x1, h0, h1, h2⟩ := h c hc
  exact ⟨x0, x1, by rw [hb.cell (p := ⟨0, c * 3, none⟩) hB]; exact h0, by rw [hb.cell (p := ⟨0, c * 3 + 1, none⟩) hB]; exact h1, by rw [hb.cell (p := ⟨0, c * 3 + 2, none⟩) hB]; exact h2⟩

/-- What a walk stands on: its block, its matcher's block, the row. -/
structure On (w : World) (b m g : Nat) (L : List (Nat × Nat)) (s d h : Nat) : Prop where
  at_ : WalkAt w b m s d h
  steps : w.cell? ⟨m, 4, none⟩ = some (.slice (some ⟨g, 0, none⟩) L.length L.length)
  row : Row w g L

theorem On.only {w w' : World} {b m g : Nat} {L : List (Nat × Nat)} {s d h : Nat} {b' : Nat} (k : On w b m g L s d h) (ho : Only b' w w') (h1 : b ≠ b') (h2 : m ≠ b') (h3 : g ≠ b') : On w' b m g L s d h :=
  ⟨k.at_.only ho h1, by rw [ho.cell (p := ⟨m, 4, none⟩) (block_lt_of_cell k.steps) h2]; exact k.steps, k.row.only ho h3⟩

set_option maxHeartbeats 400000 in
theorem next_core (b m g : Nat) (L : List (Nat × Nat)) (s d h : Nat) (w : World) (hT : Tab w) (k : On w b m g L s d h) (p : Nat × Nat) (hL : L[s]? = some p) (hc : p.1 ≤ 4) (hlen : L.length ≤ 65537) (hd : d ≤ 65536) (hh : h ≤ 65536) :
    Calls Tryd.prog 14 #[.pointer (some ⟨b, 0, none⟩)] w fun e w' => e = .returned (.int .i64 (if p.1 = 3 then -1 else h)) ∧
      WalkAt w' b m (if d + 1 = p.2 then s + 1 else s : Nat) (if d + 1 = p.2 then 0 else d + 1 : Nat) (if p.1 = 3 then h else h + 1 : Nat) ∧ Only b w w' := by
  obtain ⟨x0, x1, t0, t1, t2⟩ := hT p.1 hc
  obtain ⟨c0, c1, c2, c3, f1, f2, f3⟩ := k.at_.cells
  obtain ⟨g0, g1⟩ := k.row.cells s p hL
  have hs : s < L.length := (List.getElem?_eq_some_iff.1 hL).1
  have hmz := block_lt_of_cell k.steps
  have cond : ∀ x : Bool, (((d : Int) + 1 == (p.2 : Int)) = x) ↔ ((decide (d + 1 = p.2)) = x) := by
    intro x
    have : ((d : Int) + 1 == (p.2 : Int)) = decide (d + 1 = p.2) := by
      rw [Bool.eq_iff_iff]; simp; omega
    rw [this]
  by_cases h3 : p.1 = 3
  · rw [if_pos h3] at t2
    by_cases hn : d + 1 = p.2
    · refine (next_d b m g L.length L.length s p.1 d h p.2 x0 x1 w hT.lt k.at_.lt hmz k.row.lt c0 c1 c2 c3 f1 f2 f3 k.steps hs g0 g1 hc t0 t1 t2 hlen (by omega) (by omega) (by omega) (by omega) ((cond _).2 (by simpa using hn))).mono ?_
      rintro e w' ⟨rfl, hb⟩
      rw [if_pos h3, if_pos hn, if_pos hn, if_pos h3]
      refine ⟨rfl, ?_, (((Only.setCell b 2 w _).trans (Only.setCell b 1 _ _)).trans (Only.setCell b 2 _ _)).trans (Only.of_below hb)⟩
      exact (((k.at_.set2 _).set1 _).set2 _).below hb
    · refine (next_c b m g L.length L.length s p.1 d h p.2 x0 x1 w hT.lt k.at_.lt hmz k.row.lt c0 c1 c2 c3 f1 f2 f3 k.steps hs g0 g1 hc t0 t1 t2 hlen (by omega) (by omega) (by omega) (by omega) ((cond _).2 (by simpa using hn))).mono ?_
      rintro e w' ⟨rfl, hb⟩
      rw [if_pos h3, if_neg hn, if_neg hn, if_pos h3]
      exact ⟨rfl, ((k.at_.set2 _)).below hb, ((Only.setCell b 2 w _)).trans (Only.of_below hb)⟩
  · rw [if_neg h3] at t2
    by_cases hn : d + 1 = p.2
    · refine (next_b b m g L.length L.length s p.1 d h p.2 x0 x1 w hT.lt k.at_.lt hmz k.row.lt c0 c1 c2 c3 f1 f2 f3 k.steps hs g0 g1 hc t0 t1 t2 hlen (by omega) (by omega) (by omega) (by omega) ((cond _).2 (by simpa using hn))).mono ?_
      rintro e w' ⟨rfl, hb⟩
      rw [if_neg h3, if_pos hn, if_pos hn, if_neg h3]
      exact ⟨rfl, ((((k.at_.set3 _).set2 _).set1 _).set2 _).below hb, ((((Only.setCell b 3 w _).trans (Only.setCell b 2 _ _)).trans (Only.setCell b 1 _ _)).trans (Only.setCell b 2 _ _)).trans (Only.of_below hb)⟩
    · refine (next_a b m g L.length L.length s p.1 d h p.2 x0 x1 w hT.lt k.at_.lt hmz k.row.lt c0 c1 c2 c3 f1 f2 f3 k.steps hs g0 g1 hc t0 t1 t2 hlen (by omega) (by omega) (by omega) (by omega) ((cond _).2 (by simpa using hn))).mono ?_
      rintro e w' ⟨rfl, hb⟩
      rw [if_neg h3, if_neg hn, if_neg hn, if_neg h3]
      exact ⟨rfl, (((k.at_.set3 _).set2 _)).below hb, (((Only.setCell b 3 w _).trans (Only.setCell b 2 _ _))).trans (Only.of_below hb)⟩

theorem nine (b : Nat) (r : Int) (w : World) (X : World → Prop) (h : Calls Tryd.prog 14 #[.pointer (some ⟨b, 0, none⟩)] w fun e w' => e = .returned (.int .i64 r) ∧ X w') :
    Calls Tryd.prog 9 #[.pointer (some ⟨b, 0, none⟩)] w fun e w' => e = .returned (.int .i64 r) ∧ X w' := by
  go_enter Tryd.func9, Tryd.ntmps9
  go_wp2_with fail
  refine h.mono ?_
  rintro e w' ⟨rfl, hx⟩
  have HX : Hid _ := hx
  clear hx
  go_wp2
  go_ret
  exact ⟨rfl, HX.out⟩

/-- What the t-th call answers. -/
def ans (E : List Nat) (t : Nat) : Int := if E.getD t 0 = 3 then -1 else (cnt (E.take t) : Nat)

/-- 'ZZArgWalkNext' at a walk that stands behind t calls: the answer hangs on the laid-out steps alone. -/
theorem next_any (b m g : Nat) (L : List (Nat × Nat)) (t s d h : Nat) (w : World) (hT : Tab w) (k : On w b m g L s d h) (hs : St L t s d h) (htl : t < (expand L).length) (hpos : ∀ p ∈ L, 1 ≤ p.2) (h4 : ∀ p ∈ L, p.1 ≤ 4) (hlen : L.length ≤ 65537) (ht : t < 65536) (hbm : m ≠ b) (hbg : g ≠ b) :
    Calls Tryd.prog 9 #[.pointer (some ⟨b, 0, none⟩)] w fun e w' => e = .returned (.int .i64 (ans (expand L) t)) ∧
      ∃ s' d' h', St L (t + 1) s' d' h' ∧ On w' b m g L s' d' h' ∧ Only b w w' := by
  have hsl := hs.lt htl
  obtain ⟨p, hL⟩ : ∃ p, L[s]? = some p := ⟨_, List.getElem?_eq_getElem hsl⟩
  have hpc : (expand L).getD t 0 = p.1 := by rw [List.getD_eq_getElem?_getD, hs.cur p hL]; rfl
  have hp4 := h4 p (List.mem_of_getElem? hL)
  obtain ⟨hd, hh⟩ := hs.bounds
  have core := nine b _ w _ (next_core b m g L s d h w hT k p hL hp4 hlen (by omega) (by omega))
  have hn := hs.next hpos p hL
  refine core.mono ?_
  rintro e w' ⟨rfl, hw, ho⟩
  refine ⟨by unfold ans; rw [← hs.held, hpc], _, _, _, hn, ⟨hw, ?_, k.row.only ho hbg⟩, ho⟩
  rw [ho.cell (p := ⟨m, 4, none⟩) (block_lt_of_cell k.steps) hbm]
  exact k.steps

/-! ### 'zzStepsFit' -/

def Fit (cs : List Nat) (ns : List Int) (k : Nat) : Prop := (∀ j, j < k → cs.getD j 0 ≤ 4 ∧ 1 ≤ ns.getD j 0 ∧ ns.getD j 0 ≤ 65536) ∧ 0 ≤ (ns.take k).sum ∧ (ns.take k).sum ≤ 65536
theorem fit_zero (cs : List Nat) (ns : List Int) : Fit cs ns 0 := ⟨fun j hj => absurd hj (Nat.not_lt_zero _), by simp, by simp⟩
theorem fit_succ (cs : List Nat) (ns : List Int) (k : Nat) (hk : k < ns.length) (h : Fit cs ns k) (h1 : (cs.getD k 0 : Int) ≤ 4) (h2 : 1 ≤ ns.getD k 0) (h3 : ns.getD k 0 ≤ 65536) (h4 : (ns.take k).sum + ns.getD k 0 ≤ 65536) : Fit cs ns (k + 1) := by
  have e : (ns.take (k + 1)).sum = (ns.take k).sum + ns.getD k 0 := by
    rw [List.take_succ_eq_append_getElem hk, List.sum_append, List.sum_cons, List.sum_nil, Int.add_zero, List.getD_eq_getElem?_getD, List.getElem?_eq_getElem hk]; rfl
  refine ⟨fun j hj => ?_, by rw [e]; have := h.2.1; omega, by rw [e]; exact h4⟩
  by_cases ej : j = k
  · subst ej; exact ⟨by omega, h2, h3⟩
  · exact h.1 j (by omega)
theorem sum_succ (ns : List Int) (k : Nat) (hk : k < ns.length) : (ns.take (k + 1)).sum = (ns.take k).sum + ns.getD k 0 := by
  rw [List.take_succ_eq_append_getElem hk, List.sum_append, List.sum_cons, List.sum_nil, Int.add_zero, List.getD_eq_getElem?_getD, List.getElem?_eq_getElem hk]; rfl

def RetS (p : Prop) (e : Ending) : Prop := ∃ b, e = .returned (.bool b) ∧ (b = true → p)
theorem retS_false (p : Prop) : RetS p (.returned (.bool false)) := ⟨false, rfl, fun h => by cases h⟩
theorem retS_true {p : Prop} (b : Bool) (h : p) : RetS p (.returned (.bool b)) := ⟨b, rfl, fun _ => h⟩

theorem fit_ne (a1 a2 : Option Addr) (l1 c1 l2 c2 : Nat) (p : Prop) (w : World) (hne : ((l1 : Int) == (l2 : Int)) = false) :
    Calls Tryd.prog 6 #[.slice a1 l1 c1, .slice a2 l2 c2] w fun e w' => RetS p e ∧ w = w' := by
  go_enter Tryd.func6, Tryd.ntmps6
  go_wp2
  go_ret
  exact ⟨retS_false _, rfl⟩

theorem fit_none (a1 a2 : Option Addr) (c1 c2 : Nat) (cs : List Nat) (ns : List Int) (w : World) :
    Calls Tryd.prog 6 #[.slice a1 0 c1, .slice a2 0 c2] w fun e w' => RetS (Fit cs ns 0) e ∧ w = w' := by
  go_enter Tryd.func6, Tryd.ntmps6
  go_wp2
  go_loop [5, 6] (fun t i => i = .int .i64 0) (fun _ _ => 0)
  case atStart => exact rfl
  case round =>
    subst hrel
    go_wp2
    go_ret
    exact ⟨retS_true _ (fit_zero _ _), rfl⟩

set_option maxHeartbeats 400000 in
theorem fit_some (b1 o1 b2 o2 len c1 c2 : Nat) (cs : List Nat) (ns : List Int) (w : World) (hlen : len ≤ 65536) (hn : ns.length = len)
    (hc1 : ∀ j, j < len → w.cell? ⟨b1, o1 + j, none⟩ = some (.int .u8 (cs.getD j 0 : Nat))) (hc2 : ∀ j, j < len → w.cell? ⟨b2, o2 + j, none⟩ = some (.int .i64 (ns.getD j 0))) :
    Calls Tryd.prog 6 #[.slice (some ⟨b1, o1, none⟩) len c1, .slice (some ⟨b2, o2, none⟩) len c2] w fun e w' => RetS (Fit cs ns len) e ∧ w = w' := by
  have HN : Hid _ := hn
  clear hn
  go_enter Tryd.func6, Tryd.ntmps6
  go_wp2
  go_loop [5, 6] (fun t i => ∃ k : Nat, k ≤ len ∧ i = .int .i64 k ∧ t = .int .i64 (ns.take k).sum ∧ Fit cs ns k) (fun _ i => len - (intOf i).toNat)
  case atStart => exact ⟨0, Nat.zero_le _, rfl, by simp, fit_zero _ _⟩
  case round =>
    obtain ⟨k, hk, rfl, rfl, hf⟩ := hrel
    have hb0 := hf.2.1
    have hb1 := hf.2.2
    have HF : Hid _ := hf
    clear hf
    by_cases hlt : k < len
    · have hx := hc1 k hlt
      have hy := hc2 k hlt
      have hsucc : Hid _ := fit_succ cs ns k (by rw [HN.out]; exact hlt) HF.out
      have hsum : Hid _ := sum_succ ns k (by rw [HN.out]; exact hlt)
      clear hc1 hc2
      obtain ⟨c, ec⟩ : ∃ c, c = cs.getD k 0 := ⟨_, rfl⟩
      obtain ⟨n, en⟩ : ∃ n, n = ns.getD k 0 := ⟨_, rfl⟩
      obtain ⟨T, eT⟩ : ∃ T, T = (ns.take k).sum := ⟨_, rfl⟩
      rw [← ec] at hx hsucc
      rw [← en] at hy hsucc hsum
      rw [← eT] at hsucc hsum hb0 hb1
      rw [← eT]
      clear ec en eT
      go_wp2
      all_goals first
        | (go_ret; exact ⟨retS_false _, rfl⟩)
        | skip
      go_round
      case rel => exact ⟨k + 1, by omega, by go_num, by rw [hsum.out], hsucc.out (by omega) (by omega) (by omega) (by omega)⟩
      case measure => simp [intOf]; omega
    · clear hc1 hc2
      obtain rfl : k = len := by omega
      go_wp2
      go_ret
      exact ⟨retS_true _ HF.out, rfl⟩

end Go.Proofs.Qxb6615160aDoor
