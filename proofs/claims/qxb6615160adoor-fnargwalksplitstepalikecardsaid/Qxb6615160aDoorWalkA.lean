/-
  DERIVED. Seat b6615160aD: the callees' contracts.
-/
import Derived.Test.Qxb6615160aDoorRows
import Derived.WalkKit
import Derived.WalkSpells
import Derived.WalkLawsBesides
namespace Go.Proofs.Qxb6615160aDoor
open Go.RowKit
set_option linter.unusedVariables false

theorem step_any (c n : Int) (w : World) :
    Calls Tryd.prog 7 #[.int .u8 c, .int .i64 n] w fun e w' => e = .returned (.agg #[.int .u8 c, .int .i64 n]) ∧ ∃ xs, w' = w.alloc (.cells xs 28) := by
  go_enter Tryd.func7, Tryd.ntmps7
  go_wp2
  exact bodyPost_ret (v := .agg #[.int .u8 c, .int .i64 n]) (by simp [results, Tryd.results7, go_sem]) rfl ⟨rfl, _, rfl⟩

theorem new_any (s : Option Addr) (len cap : Nat) (w : World) :
    Calls Tryd.prog 8 #[.slice s len cap, .int .i64 0, .int .i64 0, .int .i64 0] w fun e w' => e = .returned (.pointer (some ⟨w.heap.size + 1, 0, none⟩)) ∧
      w' = (w.alloc (.cells #[.slice none 0 0, .int .i64 0, .int .i64 0, .nilIface, .slice s len cap, .slice none 0 0, .slice none 0 0, .int .i64 0, .int .i64 0] 40)).alloc (.cells #[.pointer (some ⟨w.heap.size, 0, none⟩), .int .i64 0, .int .i64 0, .int .i64 0] 42) := by
  go_enter Tryd.func8, Tryd.ntmps8
  go_wp2
  go_ret
  exact ⟨rfl, rfl⟩

theorem getStep (b : Nat) (n : Int) (w : World) (h : w.cell? ⟨b, 1, none⟩ = some (.int .i64 n)) :
    Calls Tryd.prog 10 #[.pointer (some ⟨b, 0, none⟩)] w fun e w' => e = .returned (.int .i64 n) ∧ w = w' := by
  go_enter Tryd.func10, Tryd.ntmps10
  go_wp2
  go_ret
  exact ⟨rfl, rfl⟩
theorem getDone (b : Nat) (n : Int) (w : World) (h : w.cell? ⟨b, 2, none⟩ = some (.int .i64 n)) :
    Calls Tryd.prog 11 #[.pointer (some ⟨b, 0, none⟩)] w fun e w' => e = .returned (.int .i64 n) ∧ w = w' := by
  go_enter Tryd.func11, Tryd.ntmps11
  go_wp2
  go_ret
  exact ⟨rfl, rfl⟩
theorem getHeld (b : Nat) (n : Int) (w : World) (h : w.cell? ⟨b, 3, none⟩ = some (.int .i64 n)) :
    Calls Tryd.prog 12 #[.pointer (some ⟨b, 0, none⟩)] w fun e w' => e = .returned (.int .i64 n) ∧ w = w' := by
  go_enter Tryd.func12, Tryd.ntmps12
  go_wp2
  go_ret
  exact ⟨rfl, rfl⟩

def RetB (e : Ending) : Prop := ∃ b, e = .returned (.bool b)
theorem retB (b : Bool) : RetB (.returned (.bool b)) := ⟨b, rfl⟩

theorem bytes_any (a1 a2 : Option Addr) (l1 c1 l2 c2 : Nat) (x y : Int) (w : World) (h1 : l1 ≤ maxLen) (h2 : l2 ≤ maxLen) :
    Calls Tryd.prog 13 #[.slice a1 l1 c1, .slice a2 l2 c2, .int .i64 x, .int .i64 y] w fun e w' => RetB e ∧ w = w' := by
  unfold maxLen at h1 h2
  go_enter Tryd.func13, Tryd.ntmps13
  go_wp2
  all_goals
    go_ret
    exact ⟨retB _, rfl⟩

set_option maxHeartbeats 400000 in
theorem rule_any (c : Nat) (hc : c ≤ 4) (x0 x1 x2 : Int) (w : World) (hz : 0 < w.heap.size) (h0 : w.cell? ⟨0, c * 3, none⟩ = some (.int .i64 x0)) (h1 : w.cell? ⟨0, c * 3 + 1, none⟩ = some (.int .i64 x1)) (h2 : w.cell? ⟨0, c * 3 + 2, none⟩ = some (.int .i64 x2)) :
    Calls Tryd.prog 15 #[.int .u8 c] w fun e w' => e = .returned (.agg #[.int .i64 x0, .int .i64 x1, .int .i64 x2]) ∧ ∃ xs, w' = w.alloc (.cells xs 45) := by
  go_enter Tryd.func15, Tryd.ntmps15
  go_wp2
  exact bodyPost_ret (v := .agg #[.int .i64 x0, .int .i64 x1, .int .i64 x2]) (by simp [results, Tryd.results15, go_sem]) rfl ⟨rfl, _, rfl⟩

end Go.Proofs.Qxb6615160aDoor
