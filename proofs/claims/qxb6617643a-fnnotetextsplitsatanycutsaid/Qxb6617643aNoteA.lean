/-
  DERIVED. Seat b6617643a: the callees' contracts.
-/
import Derived.Test.Qxb6617643aRows
import Derived.Test.Qxb6617643aShelf
import Derived.WalkKit
import Derived.WalkSpells
import Derived.WalkLawsBesides
namespace Go.Proofs.Qxb6617643a
open Go.RowKit
set_option linter.unusedVariables false

/-- What 'text' gives: the label, ": ", the reasons joined by ", and ". -/
def joined (xs : List ByteArray) : ByteArray := ⟨(Lib.join (xs.map (·.data.toList)) [44, 32, 97, 110, 100, 32]).toArray⟩

theorem join_some (bk o c : Nat) (xs : List ByteArray) (w : World) (hcells : ∀ (j : Nat) x, xs[j]? = some x → w.cell? ⟨bk, o + j, none⟩ = some (.string x)) (hbk : bk < w.heap.size) (hN : xs.length ≤ 2000000) (hcap : xs.length ≤ c) (hlen : (joined xs).size ≤ 20000000) :
    Calls Try.prog 8 #[.slice (some ⟨bk, o, none⟩) xs.length c, .string ⟨#[44, 32, 97, 110, 100, 32]⟩] w fun e w' => e = .returned (.string (joined xs)) ∧ Below w.heap.size w w' := by
  refine Try.strings_Join bk o c xs ⟨#[44, 32, 97, 110, 100, 32]⟩ w hcells hbk (by omega) hcap ?_
  have : (joined xs).size = (Lib.join (xs.map (·.data.toList)) [44, 32, 97, 110, 100, 32]).length := rfl
  show (Lib.join (xs.map (·.data.toList)) [44, 32, 97, 110, 100, 32]).length ≤ _
  omega

set_option maxHeartbeats 400000 in
theorem text_some (c : Int) (bk o cap : Nat) (xs : List ByteArray) (what : ByteArray) (w : World) (hcells : ∀ (j : Nat) x, xs[j]? = some x → w.cell? ⟨bk, o + j, none⟩ = some (.string x)) (hbk : bk < w.heap.size) (hcap : xs.length ≤ cap)
    (hN : xs.length ≤ 2000000) (hlen : (joined xs).size ≤ 20000000) (hwhat : what.size ≤ 2000000) :
    Calls Try.prog 7 #[.agg #[.int .i64 c, .slice (some ⟨bk, o, none⟩) xs.length cap], .string what] w fun e w' => e = .returned (.string (what ++ ⟨#[58, 32]⟩ ++ joined xs)) ∧ Below w.heap.size w w' := by
  have hz : (what ++ (⟨#[58, 32]⟩ : ByteArray)).size ≤ 2000002 := by rw [ByteArray.size_append]; show what.size + 2 ≤ _; omega
  go_enter Try.func7, Try.ntmps7
  go_wp2_with fail
  refine (join_some bk o cap xs _ ?_ ?_ hN hcap hlen).mono ?_
  · intro j x hx
    rw [← hcells j x hx]
    exact ((Below.refl w.heap.size w).alloc (Nat.le_refl _) _).cell (p := ⟨bk, o + j, none⟩) hbk
  · simp; omega
  · rintro e w1 ⟨rfl, hb⟩
    go_wp2
    go_ret
    exact ⟨rfl, ((Below.refl _ _).alloc (Nat.le_refl _) _).trans (hb.mono (by simp))⟩

set_option maxHeartbeats 400000 in
theorem text_none (c : Int) (what : ByteArray) (w : World) (hwhat : what.size ≤ 2000000) :
    Calls Try.prog 7 #[.agg #[.int .i64 c, .slice none 0 0], .string what] w fun e w' => e = .returned (.string (what ++ ⟨#[58, 32]⟩ ++ joined [])) ∧ Below w.heap.size w w' := by
  go_enter Try.func7, Try.ntmps7
  go_wp2_with fail
  refine (Try.strings_Join_none none 0 ⟨#[44, 32, 97, 110, 100, 32]⟩ _).mono ?_
  rintro e w1 ⟨rfl, rfl⟩
  go_wp2
  go_ret
  exact ⟨rfl, ((Below.refl _ _).alloc (Nat.le_refl _) _)⟩

set_option maxHeartbeats 400000 in
theorem note_some (c : Int) (bk o cap : Nat) (xs : List ByteArray) (what : ByteArray) (w : World) (hcells : ∀ (j : Nat) x, xs[j]? = some x → w.cell? ⟨bk, o + j, none⟩ = some (.string x)) (hbk : bk < w.heap.size) (hcap : xs.length ≤ cap)
    (hN : xs.length ≤ 2000000) (hlen : (joined xs).size ≤ 20000000) (hwhat : what.size ≤ 2000000) :
    Calls Try.prog 5 #[.int .i64 c, .slice (some ⟨bk, o, none⟩) xs.length cap, .string what] w fun e w' => e = .returned (.string (what ++ ⟨#[58, 32]⟩ ++ joined xs)) ∧ Below w.heap.size w w' := by
  go_enter Try.func5, Try.ntmps5
  go_wp2_with fail
  refine (text_some c bk o cap xs what _ hcells hbk hcap hN hlen hwhat).mono ?_
  rintro e w1 ⟨rfl, hb⟩
  go_wp2
  go_ret
  exact ⟨rfl, hb⟩

set_option maxHeartbeats 400000 in
theorem note_none (c : Int) (what : ByteArray) (w : World) (hwhat : what.size ≤ 2000000) :
    Calls Try.prog 5 #[.int .i64 c, .slice none 0 0, .string what] w fun e w' => e = .returned (.string (what ++ ⟨#[58, 32]⟩ ++ joined [])) ∧ Below w.heap.size w w' := by
  go_enter Try.func5, Try.ntmps5
  go_wp2_with fail
  refine (text_none c what _ hwhat).mono ?_
  rintro e w1 ⟨rfl, hb⟩
  go_wp2
  go_ret
  exact ⟨rfl, hb⟩

def RetB (e : Ending) : Prop := ∃ b, e = .returned (.bool b)
theorem retB (b : Bool) : RetB (.returned (.bool b)) := ⟨b, rfl⟩

set_option maxHeartbeats 400000 in
theorem bytes_none (c k : Int) (what : ByteArray) (w : World) (hw : what.size ≤ maxLen) :
    Calls Try.prog 4 #[.int .i64 c, .slice none 0 0, .string what, .int .i64 k] w fun e w' => RetB e ∧ w = w' := by
  unfold maxLen at hw
  go_enter Try.func4, Try.ntmps4
  go_wp2
  go_loop [9, 10] (fun n i => i = .int .i64 0 ∧ n = .int .i64 0) (fun _ _ => 0)
  case atStart => exact ⟨rfl, rfl⟩
  case round =>
    obtain ⟨rfl, rfl⟩ := hrel
    go_wp2
    all_goals
      go_ret
      exact ⟨retB _, rfl⟩

def SzOk (xs : List ByteArray) (k : Nat) : Prop := ∀ j, j < k → (xs.getD j ByteArray.empty).size ≤ 1048576
theorem szOk_zero (xs : List ByteArray) : SzOk xs 0 := fun j hj => absurd hj (Nat.not_lt_zero _)
theorem szOk_succ (xs : List ByteArray) (k : Nat) (h : SzOk xs k) (hk : (xs.getD k ByteArray.empty).size ≤ 1048576) : SzOk xs (k + 1) := fun j hj => by
  by_cases e : j = k
  · rw [e]; exact hk
  · exact h j (by omega)
def RetS (p : Prop) (e : Ending) : Prop := ∃ b, e = .returned (.bool b) ∧ (b = true → p)
theorem retS_false (p : Prop) : RetS p (.returned (.bool false)) := ⟨false, rfl, fun h => by cases h⟩
theorem retS_true {p : Prop} (b : Bool) (h : p) : RetS p (.returned (.bool b)) := ⟨b, rfl, fun _ => h⟩

set_option maxHeartbeats 400000 in
theorem bytes_some (c k : Int) (b off len cap : Nat) (xs : List ByteArray) (what : ByteArray) (w : World) (hw : what.size ≤ maxLen) (hlc : len ≤ cap) (hm : cap ≤ maxLen)
    (hc : ∀ j, j < len → w.cell? ⟨b, off + j, none⟩ = some (.string (xs.getD j ByteArray.empty))) (hsz : ∀ j, (xs.getD j ByteArray.empty).size ≤ maxLen) :
    Calls Try.prog 4 #[.int .i64 c, .slice (some ⟨b, off, none⟩) len cap, .string what, .int .i64 k] w fun e w' => RetS (SzOk xs len) e ∧ w = w' := by
  unfold maxLen at hw hm hsz
  by_cases h1 : (1048576 : Int) < len
  · go_enter Try.func4, Try.ntmps4
    go_wp2
    go_ret
    exact ⟨retS_false _, rfl⟩
  · go_enter Try.func4, Try.ntmps4
    go_wp2
    go_loop [9, 10] (fun n i => ∃ k : Nat, ∃ t : Int, k ≤ len ∧ i = .int .i64 k ∧ 0 ≤ t ∧ t ≤ 1048576 ∧ n = .int .i64 t ∧ SzOk xs k) (fun _ i => len - (intOf i).toNat)
    case atStart => exact ⟨0, _, Nat.zero_le _, rfl, by omega, by omega, rfl, szOk_zero _⟩
    case round =>
      obtain ⟨k, t, hk, rfl, ht0, ht1, rfl, hso⟩ := hrel
      by_cases hlt : k < len
      · have hcell := hc k hlt
        have hs := hsz k
        clear hc hsz
        have hnx := szOk_succ xs k hso
        obtain ⟨x, hx⟩ : ∃ x, x = xs.getD k ByteArray.empty := ⟨_, rfl⟩
        rw [← hx] at hcell hs hnx
        clear hx
        have HN : Hid _ := hnx
        clear hnx
        go_wp2
        · go_ret
          exact ⟨retS_false _, rfl⟩
        · go_ret
          exact ⟨retS_false _, rfl⟩
        · go_round
          case rel => exact ⟨k + 1, _, by omega, by go_num, by omega, by omega, rfl, HN.out (by omega)⟩
          case measure => simp [intOf]; omega
      · clear hc hsz
        obtain rfl : k = len := by omega
        have HSo : Hid _ := hso
        clear hso
        go_wp2
        all_goals
          go_ret
          exact ⟨retS_true _ HSo.out, rfl⟩

end Go.Proofs.Qxb6617643a
