import Derived.Test.Qxb6617643aNoteB
import Derived.Test.Qxb6617643aNoteP
import Derived.Laws.CopyOwn
import Derived.Deep.OwnRows
namespace Go.Proofs.Qxb6617643a
open Go.RowKit
set_option linter.unusedVariables false

theorem info9 : (Try.prog.info? 9).map (fun i => (i.zero, i.size, i.bytes)) = some (some (.string ⟨#[]⟩), 1, 16) := by kernel_rfl
theorem info9s : (Try.prog.info? 9).map (·.size) = some 1 := by kernel_rfl

theorem made_lies (w : World) (n : Nat) : (w.alloc (.cells (madeCells #[.string ⟨#[]⟩] n) 9)).heap[w.heap.size]? = some (.cells (madeCells #[.string ⟨#[]⟩] n).toList.toArray 9 (0, 0)) := by
  show (w.heap.push _)[w.heap.size]? = _; simp

theorem made_length (n : Nat) : (madeCells #[Value.string ⟨#[]⟩] n).toList.length = n := by
  rw [Array.length_toList]; exact size_madeCells _ _

theorem src_lies (w : World) (a : Addr) (len : Nat) (xs : List ByteArray) (o : Obj) (hc : ∀ j, j < len → w.cell? (a.add j) = some (.string (xs.getD j ByteArray.empty))) (j : Nat) (v : Value)
    (h : ((xs.take len).map Value.string)[j]? = some v) : (w.alloc o).cell? (a.add j) = some v := by
  have hj : j < len := by
    have := List.getElem?_eq_some_iff.1 h
    obtain ⟨h1, _⟩ := this
    simp at h1; omega
  rw [List.getElem?_map, List.getElem?_take_of_lt hj] at h
  cases hx : xs[j]? with
  | none => rw [hx] at h; simp at h
  | some x =>
    rw [hx] at h
    simp at h
    subst h
    have := hc j hj
    rw [List.getD_eq_getElem?_getD, hx] at this
    rw [((Below.refl w.heap.size w).alloc (Nat.le_refl _) _).cell (p := a.add j) (block_lt_of_cell this)]
    simpa using this

theorem cell_of_row {W : World} {g j : Nat} {arr : Array Value} {t : TypeId} {z : Nat × Nat} {v : Value} (h : W.heap[g]? = some (.cells arr t z)) (ha : arr[j]? = some v) : W.cell? ⟨g, j, none⟩ = some v := by
  simp [World.cell?, h, ha]

/-- 'zzc := make([]string, len(reasons)); copy(zzc, reasons)' -/
theorem copy_made (w : World) (a : Addr) (len cap : Nat) (xs : List ByteArray) (hxl : len ≤ xs.length) (hc : ∀ j, j < len → w.cell? (a.add j) = some (.string (xs.getD j ByteArray.empty))) :
    ∃ w1, (Builtin.copy_ #[22, 22] 3 #[.slice (some ⟨w.heap.size, 0, none⟩) len len, .slice (some a) len cap]).run Try.prog (w.alloc (.cells (madeCells #[.string ⟨#[]⟩] len) 9)) = .ok (.int .i64 len) w1 ∧ Below w.heap.size w w1 ∧ w.heap.size < w1.heap.size ∧
      ∀ j, j < len → w1.cell? ⟨w.heap.size, j, none⟩ = some (.string (xs.getD j ByteArray.empty)) := by
  have hlies := made_lies w len
  have hml := made_length len
  have hbel := (Below.refl w.heap.size w).alloc (Nat.le_refl _) (.cells (madeCells #[.string ⟨#[]⟩] len) 9)
  have hcsl : ((xs.take len).map Value.string).length = len := by simp; omega
  have hone : ∀ v ∈ (xs.take len).map Value.string, v.oneCell' = true := by
    intro v hv
    obtain ⟨x, _, rfl⟩ := List.mem_map.1 hv
    rfl
  have hrun := run_copy_row (P := Try.prog) (w.alloc (.cells (madeCells #[.string ⟨#[]⟩] len) 9)) 22 22 3 9 w.heap.size 0 len len a len cap (madeCells #[.string ⟨#[]⟩] len).toList.toArray 9 ((xs.take len).map Value.string) Try.underlying22 info9s hlies (by rw [hcsl]; exact (Nat.min_self _).symm) (src_lies w a len xs _ hc) (by rw [hcsl]; simp only [List.size_toArray, hml]; omega) hone
  rw [hcsl] at hrun
  refine ⟨_, hrun, below_setRow hbel (Nat.le_refl _) _, ?_, ?_⟩
  · show _ < ((w.alloc _).setRow _ _).heap.size
    have : ((w.alloc (.cells (madeCells #[.string ⟨#[]⟩] len) 9)).setRow w.heap.size (List.take 0 (madeCells #[Value.string ⟨#[]⟩] len).toList.toArray.toList ++ List.map Value.string (List.take len xs) ++ List.drop (0 + len) (madeCells #[Value.string ⟨#[]⟩] len).toList.toArray.toList).toArray).heap.size = w.heap.size + 1 := by simp [World.setRow]
    omega
  · intro j hj
    have hx : xs[j]? = some (xs.getD j ByteArray.empty) := by
      rw [List.getD_eq_getElem?_getD, List.getElem?_eq_getElem (by omega)]; rfl
    have hrow := setRow_heap (w.alloc (.cells (madeCells #[.string ⟨#[]⟩] len) 9)) w.heap.size _ ((List.take 0 (madeCells #[Value.string ⟨#[]⟩] len).toList.toArray.toList ++ List.map Value.string (List.take len xs) ++ List.drop (0 + len) (madeCells #[Value.string ⟨#[]⟩] len).toList.toArray.toList)).toArray 9 _ hlies
    have harr : ((List.take 0 (madeCells #[Value.string ⟨#[]⟩] len).toList.toArray.toList ++ List.map Value.string (List.take len xs) ++ List.drop (0 + len) (madeCells #[Value.string ⟨#[]⟩] len).toList.toArray.toList)).toArray[j]? = some (.string (xs.getD j ByteArray.empty)) := by
      rw [List.getElem?_toArray, List.take_zero, List.nil_append, List.getElem?_append_left (by rw [hcsl]; exact hj), List.getElem?_map, List.getElem?_take_of_lt hj, hx]
      rfl
    exact cell_of_row hrow harr

theorem sub_get (xs : List ByteArray) (o n j : Nat) (x : ByteArray) (h : ((xs.drop o).take n)[j]? = some x) : j < n ∧ o + j < xs.length ∧ xs.getD (o + j) ByteArray.empty = x := by
  obtain ⟨h1, h2⟩ := List.getElem?_eq_some_iff.1 h
  have h3 : j < n ∧ o + j < xs.length := by simp at h1; omega
  refine ⟨h3.1, h3.2, ?_⟩
  rw [List.getElem_take, List.getElem_drop] at h2
  rw [List.getD_eq_getElem?_getD, List.getElem?_eq_getElem h3.2, h2]; rfl

theorem tot_sub (xs : List ByteArray) (o n : Nat) : tot ((xs.drop o).take n) ≤ tot xs := by
  have h1 := tot_split xs o
  have h2 := tot_split (xs.drop o) n
  omega

theorem note_cut (c : Int) (g m : Nat) (xs : List ByteArray) (hxl : xs.length = m) (lab J : ByteArray) (w1 wi : World) (hcell1 : ∀ j, j < m → w1.cell? ⟨g, j, none⟩ = some (.string (xs.getD j ByteArray.empty))) (hg : g < w1.heap.size) (hB : Below w1.heap.size w1 wi) (o n cap : Nat)
    (hon : o + n ≤ m) (hcap : n ≤ cap) (hJ : joined ((xs.drop o).take n) = J) (hT : tot xs ≤ 1048576) (hlab : lab.size ≤ 1048576) (hm : m ≤ 65536) :
    Calls Try.prog 5 #[.int .i64 c, .slice (some ⟨g, o, none⟩) n cap, .string lab] wi fun e w' => e = .returned (.string (lab ++ ⟨#[58, 32]⟩ ++ J)) ∧ Below w1.heap.size w1 w' := by
  have hl : ((xs.drop o).take n).length = n := by rw [List.length_take, List.length_drop]; omega
  have hj := joined_size_le ((xs.drop o).take n)
  have ht := tot_sub xs o n
  have hsz := hB.size
  have h := note_some c g o cap ((xs.drop o).take n) lab wi (fun j x hx => by
    obtain ⟨a1, a2, a3⟩ := sub_get xs o n j x hx
    rw [hB.cell (p := ⟨g, o + j, none⟩) hg, hcell1 (o + j) (by omega), a3]) (by omega) (by rw [hl]; exact hcap) (by rw [hl]; omega) (by omega) (by omega)
  rw [hl, hJ] at h
  refine h.mono ?_
  rintro e w' ⟨rfl, hb⟩
  exact ⟨rfl, hB.trans (hb.mono hsz)⟩

set_option maxHeartbeats 400000 in
theorem text_zero (c : Int) (a : Option Addr) (cap : Nat) (what : ByteArray) (w : World) (hwhat : what.size ≤ 2000000) :
    Calls Try.prog 7 #[.agg #[.int .i64 c, .slice a 0 cap], .string what] w fun e w' => e = .returned (.string (what ++ ⟨#[58, 32]⟩ ++ ⟨#[]⟩)) ∧ Below w.heap.size w w' := by
  go_enter Try.func7, Try.ntmps7
  go_wp2_with fail
  refine (Try.strings_Join_none a cap ⟨#[44, 32, 97, 110, 100, 32]⟩ _).mono ?_
  rintro e w1 ⟨rfl, rfl⟩
  go_wp2
  go_ret
  exact ⟨rfl, ((Below.refl _ _).alloc (Nat.le_refl _) _)⟩

set_option maxHeartbeats 400000 in
theorem note_zero (c : Int) (a : Option Addr) (cap : Nat) (what : ByteArray) (w : World) (hwhat : what.size ≤ 2000000) :
    Calls Try.prog 5 #[.int .i64 c, .slice a 0 cap, .string what] w fun e w' => e = .returned (.string (what ++ ⟨#[58, 32]⟩ ++ ⟨#[]⟩)) ∧ Below w.heap.size w w' := by
  go_enter Try.func5, Try.ntmps5
  go_wp2_with fail
  refine (text_zero c a cap what _ hwhat).mono ?_
  rintro e w1 ⟨rfl, hb⟩
  go_wp2
  go_ret
  exact ⟨rfl, hb⟩

theorem note_tail (c : Int) (a : Option Addr) (cap : Nat) (lab J : ByteArray) (w1 wi : World) (hB : Below w1.heap.size w1 wi) (hJ : joined [] = J) (hlab : lab.size ≤ 1048576) :
    Calls Try.prog 5 #[.int .i64 c, .slice a 0 cap, .string lab] wi fun e w' => e = .returned (.string (lab ++ ⟨#[58, 32]⟩ ++ J)) ∧ Below w1.heap.size w1 w' := by
  subst hJ
  refine (note_zero c a cap lab wi (by omega)).mono ?_
  rintro e w' ⟨rfl, hb⟩
  exact ⟨rfl, hB.trans (hb.mono hB.size)⟩

theorem note_empty (c : Int) (a : Option Addr) (cap : Nat) (lab : ByteArray) (w1 wi : World) (hB : Below w1.heap.size w1 wi) (hlab : lab.size ≤ 1048576) :
    Calls Try.prog 5 #[.int .i64 c, .slice a 0 cap, .string lab] wi fun e w' => e = .returned (.string (lab ++ ⟨#[58, 32]⟩)) ∧ Below w1.heap.size w1 w' := by
  refine (note_zero c a cap lab wi (by omega)).mono ?_
  rintro e w' ⟨rfl, hb⟩
  refine ⟨?_, hB.trans (hb.mono hB.size)⟩
  have : lab ++ (⟨#[58, 32]⟩ : ByteArray) ++ ⟨#[]⟩ = lab ++ ⟨#[58, 32]⟩ := ByteArray.append_empty
  rw [this]

theorem joined_at (xs : List ByteArray) (k : Nat) (h : k < xs.length) : joined ((xs.drop k).take 1) = xs.getD k ByteArray.empty := by
  rw [List.drop_eq_getElem_cons h, List.take_succ_cons, List.take_zero, joined_one, List.getD_eq_getElem?_getD, List.getElem?_eq_getElem h]; rfl

theorem sep_size (J1 J2 : ByteArray) (h1 : J1.size ≤ 1048576) (h2 : J2.size ≤ 1048576) : (J1 ++ (⟨#[44, 32, 97, 110, 100, 32]⟩ : ByteArray)).size ≤ 2097152 ∧ (J1 ++ (⟨#[44, 32, 97, 110, 100, 32]⟩ : ByteArray) ++ J2).size ≤ 3145728 := by
  have h : (⟨#[44, 32, 97, 110, 100, 32]⟩ : ByteArray).size = 6 := rfl
  simp only [ByteArray.size_append, h]
  omega

theorem lab_size (what x : ByteArray) (h1 : what.size ≤ 1048576) : (what ++ (⟨#[58, 32]⟩ : ByteArray)).size ≤ 2097152 := by
  have h : (⟨#[58, 32]⟩ : ByteArray).size = 2 := rfl
  simp only [ByteArray.size_append, h]
  omega

end Go.Proofs.Qxb6617643a
