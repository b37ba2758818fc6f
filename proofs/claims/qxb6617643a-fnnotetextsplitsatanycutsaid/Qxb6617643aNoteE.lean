import Derived.Test.Qxb6617643aNoteC
namespace Go.Proofs.Qxb6617643a
open Go.RowKit
set_option linter.unusedVariables false

set_option maxHeartbeats 1000000 in
theorem main_nil (c k : Int) (what : ByteArray) (w : World) (hw : what.size ≤ maxLen) :
    Calls Try.prog 3 #[.int .i64 c, .slice none 0 0, .string what, .int .i64 k] w fun e w' => e = .returned (.bool true) ∧ Below w.heap.size w w' := by
  have HB := bytes_none c k what w hw
  unfold maxLen at hw
  have hneq := fun W => run_neq_slice_nil_any (P := Try.prog) W 22 9 none 0 0 0 0 Try.underlying22
  by_cases hwb : (1048576 : Int) < what.size
  · go_enter Try.func3, Try.ntmps3
    go_wp2_with fail
    refine HB.mono ?_
    rintro e w' ⟨⟨bb, rfl⟩, rfl⟩
    cases bb
    all_goals
      go_wp2
      go_ret
      exact ⟨rfl, Below.refl _ _⟩
  have hwb' : what.size ≤ 1048576 := by omega
  have hls := lab_size what what hwb'
  obtain ⟨J, hJ⟩ : ∃ J, joined [] = J := ⟨_, rfl⟩
  have hJz : J.size ≤ 1048576 := by rw [← hJ]; show 0 ≤ _; omega
  have HF : Hid _ := fun wi hB => note_tail c none 0 what J w wi hB hJ hwb'
  have HT : Hid _ := fun wi hB => note_tail c none 0 ⟨#[]⟩ J w wi hB hJ (by show 0 ≤ _; omega)
  have HE : Hid _ := fun wi hB => note_empty c none 0 what w wi hB hwb'
  have AF : Hid _ := fun wi => after_any what J wi (by omega)
  have AT : Hid _ := fun wi => after_any ⟨#[]⟩ J wi (by show 0 + _ ≤ _; omega)
  have hB0 : Below w.heap.size w w := Below.refl _ _
  clear hJ
  go_enter Try.func3, Try.ntmps3
  go_wp2_with fail
  refine HB.mono ?_
  rintro e w' ⟨⟨bb, rfl⟩, rfl⟩
  cases bb
  · go_wp2
    go_ret
    exact ⟨rfl, Below.refl _ _⟩
  · go_wp2
    go_loop [10, 11] (fun t i => i = .int .i64 0 ∧ t = .int .i64 what.size) (fun _ _ => 0)
    case atStart => exact ⟨rfl, rfl⟩
    case round =>
      obtain ⟨rfl, rfl⟩ := hrel
      by_cases hk : k = 0
      · subst hk
        go_wp2_with fail
        refine (HF.out _ hB0).mono ?_
        rintro e w2 ⟨rfl, hB2⟩
        go_wp2_with fail
        refine (HF.out _ hB2).mono ?_
        rintro e w3 ⟨rfl, hB3⟩
        go_wp2_with fail
        refine (HT.out _ hB3).mono ?_
        rintro e w4 ⟨rfl, hB4⟩
        go_wp2_with fail
        refine (HE.out _ hB4).mono ?_
        rintro e w5 ⟨rfl, hB5⟩
        go_wp2_with fail
        refine (AF.out _).mono ?_
        rintro e w6 ⟨rfl, rfl⟩
        go_wp2_with fail
        refine (AT.out _).mono ?_
        rintro e w6 ⟨rfl, rfl⟩
        go_wp2_with fail
        refine (AF.out _).mono ?_
        rintro e w6 ⟨rfl, rfl⟩
        go_wp2
        go_ret
        exact ⟨rfl, hB5⟩
      · by_cases hk0 : k < 0
        · go_wp2
          go_ret
          exact ⟨rfl, Below.refl _ _⟩
        · have hk1 : 0 < k := by omega
          go_wp2
          go_ret
          exact ⟨rfl, Below.refl _ _⟩

end Go.Proofs.Qxb6617643a
