/-
  DERIVED. Seat b6615160aD: the law's walk at every input.
-/
import Derived.Test.Qxb6615160aDoorWalkD
namespace Go.Proofs.Qxb6615160aDoor
open Go.RowKit
set_option linter.unusedVariables false

-- The law answers true early: a bound, the premise, the place or the point does not hold.
set_option maxHeartbeats 2000000 in
set_option maxRecDepth 20000 in
theorem out_any (a1 a2 : Option Addr) (l1 c1 l2 c2 : Nat) (x y : Int) (p : Prop) (w : World) (h1 : l1 ≤ maxLen) (h2 : l2 ≤ maxLen)
    (HF : Calls Tryd.prog 6 #[.slice a1 l1 c1, .slice a2 l2 c2] w fun e w' => RetS p e ∧ w = w')
    (hc : (65536 : Int) < l1 ∨ (65536 : Int) < l2 ∨ ¬ p ∨ x < 0 ∨ (l2 : Int) ≤ x ∨ y < 1) :
    Calls Tryd.prog 4 #[.slice a1 l1 c1, .slice a2 l2 c2, .int .i64 x, .int .i64 y] w fun e w' => e = .returned (.bool true) ∧ Below w.heap.size w w' := by
  have HB := bytes_any a1 a2 l1 c1 l2 c2 x y w h1 h2
  unfold maxLen at h1 h2
  have HF' : Hid _ := HF
  clear HF
  by_cases t1 : (65536 : Int) < l1
  · clear hc
    go_enter Tryd.func4, Tryd.ntmps4
    go_wp2_with fail
    refine Calls.mono HB ?_
    rintro e w' ⟨⟨bb, rfl⟩, rfl⟩
    cases bb
    all_goals
      go_wp2
      go_ret
      exact ⟨rfl, Below.refl _ _⟩
  by_cases t2 : (65536 : Int) < l2
  · clear hc
    go_enter Tryd.func4, Tryd.ntmps4
    go_wp2_with fail
    refine Calls.mono HB ?_
    rintro e w' ⟨⟨bb, rfl⟩, rfl⟩
    cases bb
    all_goals
      go_wp2
      go_ret
      exact ⟨rfl, Below.refl _ _⟩
  have hc' : Hid (¬ p ∨ x < 0 ∨ (l2 : Int) ≤ x ∨ y < 1) := by
    rcases hc with h | h | h
    · exact absurd h t1
    · exact absurd h t2
    · exact h
  clear hc
  go_enter Tryd.func4, Tryd.ntmps4
  go_wp2_with fail
  refine Calls.mono HB ?_
  rintro e w' ⟨⟨bb, rfl⟩, rfl⟩
  cases bb
  · go_wp2
    go_ret
    exact ⟨rfl, Below.refl _ _⟩
  go_wp2_with fail
  refine Calls.mono HF'.out ?_
  rintro e w' ⟨⟨bb, rfl, hbb⟩, rfl⟩
  cases bb
  · clear hbb
    go_wp2
    go_ret
    exact ⟨rfl, Below.refl _ _⟩
  have hp := hbb rfl
  clear hbb
  rcases hc'.out with h | h | h | h
  · exact absurd hp h
  · clear hp
    go_wp2
    go_ret
    exact ⟨rfl, Below.refl _ _⟩
  · clear hp
    by_cases h0 : x < 0
    · go_wp2
      go_ret
      exact ⟨rfl, Below.refl _ _⟩
    · go_wp2
      go_ret
      exact ⟨rfl, Below.refl _ _⟩
  · clear hp
    by_cases h0 : x < 0
    · go_wp2
      go_ret
      exact ⟨rfl, Below.refl _ _⟩
    · by_cases h3 : (l2 : Int) ≤ x
      · go_wp2
        go_ret
        exact ⟨rfl, Below.refl _ _⟩
      · go_wp2
        go_ret
        exact ⟨rfl, Below.refl _ _⟩

-- .. or a slice is too long.
set_option maxHeartbeats 2000000 in
set_option maxRecDepth 20000 in
theorem out_big (a1 a2 : Option Addr) (l1 c1 l2 c2 : Nat) (x y : Int) (w : World) (h1 : l1 ≤ maxLen) (h2 : l2 ≤ maxLen) (t1 : (65536 : Int) < l1) :
    Calls Tryd.prog 4 #[.slice a1 l1 c1, .slice a2 l2 c2, .int .i64 x, .int .i64 y] w fun e w' => e = .returned (.bool true) ∧ Below w.heap.size w w' := by
  have HB := bytes_any a1 a2 l1 c1 l2 c2 x y w h1 h2
  unfold maxLen at h1 h2
  go_enter Tryd.func4, Tryd.ntmps4
  go_wp2_with fail
  refine Calls.mono HB ?_
  rintro e w' ⟨⟨bb, rfl⟩, rfl⟩
  cases bb
  all_goals
    go_wp2
    go_ret
    exact ⟨rfl, Below.refl _ _⟩

-- .. or the point lies behind the step's run.
set_option maxHeartbeats 2000000 in
set_option maxRecDepth 20000 in
theorem out_run (a1 : Option Addr) (b2 o2 : Nat) (l1 c1 l2 c2 i : Nat) (y n : Int) (p : Prop) (w : World) (h1 : l1 ≤ 65536) (h2 : l2 ≤ 65536)
    (HF : Calls Tryd.prog 6 #[.slice a1 l1 c1, .slice (some ⟨b2, o2, none⟩) l2 c2] w fun e w' => RetS p e ∧ w = w')
    (hi : i < l2) (hy : 1 ≤ y) (hn : n ≤ y) (hcell : w.cell? ⟨b2, o2 + i, none⟩ = some (.int .i64 n)) :
    Calls Tryd.prog 4 #[.slice a1 l1 c1, .slice (some ⟨b2, o2, none⟩) l2 c2, .int .i64 (i : Nat), .int .i64 y] w fun e w' => e = .returned (.bool true) ∧ Below w.heap.size w w' := by
  have HB := bytes_any a1 (some ⟨b2, o2, none⟩) l1 c1 l2 c2 i y w (by unfold maxLen; omega) (by unfold maxLen; omega)
  have HF' : Hid _ := HF
  clear HF
  go_enter Tryd.func4, Tryd.ntmps4
  go_wp2_with fail
  refine Calls.mono HB ?_
  rintro e w' ⟨⟨bb, rfl⟩, rfl⟩
  cases bb
  · go_wp2
    go_ret
    exact ⟨rfl, Below.refl _ _⟩
  go_wp2_with fail
  refine Calls.mono HF'.out ?_
  rintro e w' ⟨⟨bb, rfl, hbb⟩, rfl⟩
  clear hbb
  cases bb
  · go_wp2
    go_ret
    exact ⟨rfl, Below.refl _ _⟩
  go_wp2
  go_ret
  exact ⟨rfl, Below.refl _ _⟩

/-! ### The steps out of the two slices -/

def zipSteps (cs : List Nat) (ns : List Int) : List (Nat × Nat) := List.zipWith (fun c n => (c, n.toNat)) cs ns
theorem zipSteps_length (cs : List Nat) (ns : List Int) (h : cs.length = ns.length) : (zipSteps cs ns).length = ns.length := by simp [zipSteps, h]
theorem zipSteps_get (cs : List Nat) (ns : List Int) (j : Nat) (p : Nat × Nat) (h : (zipSteps cs ns)[j]? = some p) : j < cs.length ∧ j < ns.length ∧ p = (cs.getD j 0, (ns.getD j 0).toNat) := by
  unfold zipSteps at h
  obtain ⟨h1, h2⟩ := List.getElem?_eq_some_iff.1 h
  have h3 : j < cs.length ∧ j < ns.length := by simp at h1; omega
  rw [List.getElem_zipWith] at h2
  refine ⟨h3.1, h3.2, ?_⟩
  rw [← h2, List.getD_eq_getElem?_getD, List.getElem?_eq_getElem h3.1, List.getD_eq_getElem?_getD, List.getElem?_eq_getElem h3.2]; rfl
theorem zipSteps_len (cs : List Nat) (ns : List Int) (hl : cs.length = ns.length) (h : ∀ n ∈ ns, 0 ≤ n) : ((expand (zipSteps cs ns)).length : Int) = ns.sum := by
  induction ns generalizing cs with
  | nil =>
    have : cs = [] := List.eq_nil_of_length_eq_zero (by simpa using hl)
    subst this; rfl
  | cons n ns ih =>
    cases cs with
    | nil => simp at hl
    | cons c cs =>
      have e : zipSteps (c :: cs) (n :: ns) = (c, n.toNat) :: zipSteps cs ns := rfl
      rw [e, expand_cons, List.length_append, List.length_replicate, List.sum_cons]
      have i := ih cs (by simpa using hl) (fun m hm => h m (by simp [hm]))
      have := h n (by simp)
      omega

/-- What the walk is told of a slice of integers that came in. -/
def IsRow (k : IntKind) (w : World) (a : Option Addr) (len cap : Nat) (zs : List Int) : Prop :=
  (a = none ∧ len = 0 ∧ cap = 0 ∧ zs = []) ∨
  ∃ x, a = some x ∧ len ≤ cap ∧ cap ≤ maxLen ∧ zs.length = len ∧ (∀ i, i < len → w.cell? (x.add i) = some (.int k (zs.getD i 0))) ∧ ∀ n ∈ zs, (Lit.int k n).wf = true

theorem IsRow.le {k : IntKind} {w : World} {a : Option Addr} {len cap : Nat} {zs : List Int} (h : IsRow k w a len cap zs) : len ≤ maxLen ∧ zs.length = len := by
  rcases h with ⟨-, rfl, -, rfl⟩ | ⟨x, -, h1, h2, h3, -⟩
  · exact ⟨Nat.zero_le _, rfl⟩
  · exact ⟨by omega, h3⟩
theorem IsRow.addr {k : IntKind} {w : World} {a : Option Addr} {len cap : Nat} {zs : List Int} (h : IsRow k w a len cap zs) (h0 : 0 < len) :
    ∃ b o, a = some ⟨b, o, none⟩ ∧ ∀ i, i < len → w.cell? ⟨b, o + i, none⟩ = some (.int k (zs.getD i 0)) := by
  rcases h with ⟨-, rfl, -, rfl⟩ | ⟨x, rfl, h1, h2, h3, hc, -⟩
  · omega
  · obtain ⟨b, off, spot⟩ := x
    have hc0 := hc 0 h0
    have hspot : spot = none := by simpa [Addr.add] using World.cell?_spot hc0
    subst hspot
    refine ⟨b, off, rfl, fun i hi => ?_⟩
    have hadd : (⟨b, off, none⟩ : Addr).add i = ⟨b, off + i, none⟩ := by unfold Addr.add; split <;> simp_all
    rw [← hadd]; exact hc i hi

theorem walk (a1 a2 : Option Addr) (l1 c1 l2 c2 : Nat) (z1 z2 : List Int) (x y : Int) (w : World) (r1 : IsRow .u8 w a1 l1 c1 z1) (r2 : IsRow .i64 w a2 l2 c2 z2) (hu : ∀ n ∈ z1, 0 ≤ n) (hT : Tab w) :
    Calls Tryd.prog 4 #[.slice a1 l1 c1, .slice a2 l2 c2, .int .i64 x, .int .i64 y] w fun e w' => e = .returned (.bool true) ∧ Below w.heap.size w w' := by
  obtain ⟨m1, e1⟩ := r1.le
  obtain ⟨m2, e2⟩ := r2.le
  by_cases hne : l1 = l2
  case neg => exact out_any a1 a2 l1 c1 l2 c2 x y False w m1 m2 (fit_ne a1 a2 l1 c1 l2 c2 False w (by simp; omega)) (.inr (.inr (.inl (fun h => h))))
  case pos =>
  subst hne
  by_cases h0 : l1 = 0
  · subst h0
    refine out_any a1 a2 0 c1 0 c2 x y _ w m1 m2 (fit_none a1 a2 c1 c2 [] [] w) (.inr (.inr (.inr ?_)))
    by_cases hx : x < 0
    · exact .inl hx
    · exact .inr (.inl (by omega))
  obtain ⟨b1, o1, rfl, hc1⟩ := r1.addr (by omega)
  obtain ⟨b2, o2, rfl, hc2⟩ := r2.addr (by omega)
  have hnn : ∀ j, (0 : Int) ≤ z1.getD j 0 := fun j => by
    rw [List.getD_eq_getElem?_getD]
    cases hj : z1[j]? with
    | none => exact Int.le_refl _
    | some v => exact hu v (List.mem_of_getElem? hj)
  by_cases hb : l1 ≤ 65536
  case neg =>
    exact out_big _ _ l1 c1 l1 c2 x y w m1 m2 (by omega)
  case pos =>
  obtain ⟨cs, hcs⟩ : ∃ cs : List Nat, cs = z1.map Int.toNat := ⟨_, rfl⟩
  have hcl : cs.length = l1 := by rw [hcs, List.length_map, e1]
  have hcg : ∀ j, ((cs.getD j 0 : Nat) : Int) = z1.getD j 0 := fun j => by
    have := hnn j
    rw [hcs, List.getD_eq_getElem?_getD, List.getElem?_map]
    rw [List.getD_eq_getElem?_getD] at this ⊢
    cases hj : z1[j]? with
    | none => rfl
    | some v => rw [hj] at this; simp at this ⊢; omega
  have hc1' : ∀ j, j < l1 → w.cell? ⟨b1, o1 + j, none⟩ = some (.int .u8 (cs.getD j 0 : Nat)) := fun j hj => by rw [hcg]; exact hc1 j hj
  have HF := fit_some b1 o1 b2 o2 l1 c1 c2 cs z2 w hb e2 hc1' hc2
  by_cases hf : Fit cs z2 l1
  case neg => exact out_any _ _ l1 c1 l1 c2 x y _ w m1 m2 HF (.inr (.inr (.inl hf)))
  case pos =>
  by_cases hx0 : x < 0
  · exact out_any _ _ l1 c1 l1 c2 x y _ w m1 m2 HF (.inr (.inr (.inr (.inl hx0))))
  by_cases hx1 : (l1 : Int) ≤ x
  · exact out_any _ _ l1 c1 l1 c2 x y _ w m1 m2 HF (.inr (.inr (.inr (.inr (.inl hx1)))))
  by_cases hy1 : y < 1
  · exact out_any _ _ l1 c1 l1 c2 x y _ w m1 m2 HF (.inr (.inr (.inr (.inr (.inr hy1)))))
  obtain ⟨i, rfl⟩ : ∃ i : Nat, x = i := ⟨x.toNat, by omega⟩
  have hi : i < l1 := by omega
  by_cases hyn : z2.getD i 0 ≤ y
  · exact out_run _ b2 o2 l1 c1 l1 c2 i y _ _ w hb hb HF hi (by omega) hyn (hc2 i hi)
  obtain ⟨q, rfl⟩ : ∃ q : Nat, y = q := ⟨y.toNat, by omega⟩
  have hzpos : ∀ n ∈ z2, 0 ≤ n := fun n hn => by
    obtain ⟨j, hj⟩ := List.getElem?_of_mem hn
    have hjl : j < l1 := by rw [← e2]; exact (List.getElem?_eq_some_iff.1 hj).1
    have := (hf.1 j hjl).2.1
    rw [List.getD_eq_getElem?_getD, hj] at this
    simp at this; omega
  have hLl : (zipSteps cs z2).length = l1 := by rw [zipSteps_length cs z2 (by omega), e2]
  have hget : ∀ j p, (zipSteps cs z2)[j]? = some p → j < l1 ∧ p = (cs.getD j 0, (z2.getD j 0).toNat) := fun j p hp => by
    obtain ⟨g1, g2, g3⟩ := zipSteps_get cs z2 j p hp
    exact ⟨by omega, g3⟩
  have hgi : (zipSteps cs z2).getD i (0, 0) = (cs.getD i 0, (z2.getD i 0).toNat) := by
    obtain ⟨p, hp⟩ : ∃ p, (zipSteps cs z2)[i]? = some p := ⟨_, List.getElem?_eq_getElem (by omega)⟩
    rw [List.getD_eq_getElem?_getD, hp, (hget i p hp).2]; rfl
  have hlenE := zipSteps_len cs z2 (by omega) hzpos
  have hsum := hf.2.2
  rw [← e2, List.take_length] at hsum
  refine main_core b1 o1 b2 o2 l1 c1 c2 i q (zipSteps cs z2) w hT hLl hb hi (by omega) ?_ ?_ ?_ ?_ ?_ (by omega) (bytes_any _ _ _ _ _ _ _ _ w m1 m2) ?_
  · rw [hgi]; show q < (z2.getD i 0).toNat; omega
  · intro j p hp
    obtain ⟨g1, rfl⟩ := hget j p hp
    exact hc1' j g1
  · intro j p hp
    obtain ⟨g1, rfl⟩ := hget j p hp
    have := (hf.1 j g1).2.1
    show _ = some (Value.int .i64 ((z2.getD j 0).toNat : Int))
    rw [show (((z2.getD j 0).toNat : Nat) : Int) = z2.getD j 0 by omega]
    exact hc2 j g1
  · intro p hp
    obtain ⟨j, hj⟩ := List.getElem?_of_mem hp
    obtain ⟨g1, rfl⟩ := hget j p hj
    have := (hf.1 j g1).2.1
    show 1 ≤ (z2.getD j 0).toNat
    omega
  · intro p hp
    obtain ⟨j, hj⟩ := List.getElem?_of_mem hp
    obtain ⟨g1, rfl⟩ := hget j p hj
    exact (hf.1 j g1).1
  · refine HF.mono ?_
    rintro e w' ⟨⟨b, rfl, -⟩, rfl⟩
    exact ⟨⟨b, rfl⟩, rfl⟩

end Go.Proofs.Qxb6615160aDoor
