import Derived.Test.Qxb6617643aNoteA
namespace Go.Proofs.Qxb6617643a
open Go.RowKit
set_option linter.unusedVariables false

set_option maxHeartbeats 400000 in
theorem after_core (s lab : ByteArray) (w : World) (hs : s.size ≤ 100000000) (hl : lab.size + 2 ≤ s.size) (hpre : s.extract 0 lab.size = lab) (h58 : ((s[lab.size]'(by omega)).toNat : Int) = 58)  (h32 : ((s[lab.size + 1]'(by omega)).toNat : Int) = 32) :
    Calls Try.prog 6 #[.string s, .string lab] w fun e w' => e = .returned (.tuple #[.string (s.extract (lab.size + 2) s.size), .bool true]) ∧ w = w' := by
  go_enter Try.func6, Try.ntmps6
  go_wp2
  go_ret2
  exact ⟨rfl, rfl⟩

theorem mid_pre (lab m r : ByteArray) : (lab ++ m ++ r).extract 0 lab.size = lab := by
  rw [ByteArray.append_assoc]; exact ByteArray.extract_append_eq_left rfl
theorem mid_size (lab m r : ByteArray) (hm : m.size = 2) : (lab ++ m ++ r).size = lab.size + 2 + r.size := by
  simp only [ByteArray.size_append, hm]
theorem mid_suf (lab m r : ByteArray) (hm : m.size = 2) : (lab ++ m ++ r).extract (lab.size + 2) (lab ++ m ++ r).size = r :=
  ByteArray.extract_append_eq_right (by rw [ByteArray.size_append, hm]) (by rw [ByteArray.size_append])
theorem mid_get (lab m r : ByteArray) (hm : m.size = 2) (i : Nat) (hi : i < 2) (h : lab.size + i < (lab ++ m ++ r).size) : (lab ++ m ++ r)[lab.size + i] = m[i]'(by omega) := by
  rw [ByteArray.getElem_append_left (by rw [ByteArray.size_append]; omega), ByteArray.getElem_append_right (by omega)]
  congr 1; omega

theorem after_mid (lab m r : ByteArray) (w : World) (hm : m.size = 2) (h0 : m[0] = 58) (h1 : m[1] = 32) (hs : (lab ++ m ++ r).size ≤ 100000000) :
    Calls Try.prog 6 #[.string (lab ++ m ++ r), .string lab] w fun e w' => e = .returned (.tuple #[.string r, .bool true]) ∧ w = w' := by
  have hz := mid_size lab m r hm
  have h := after_core (lab ++ m ++ r) lab w hs (by omega) (mid_pre lab m r) (by rw [show (lab ++ m ++ r)[lab.size]'(by omega) = _ from mid_get lab m r hm 0 (by omega) (by omega), h0]; rfl) (by rw [mid_get lab m r hm 1 (by omega) (by omega), h1]; rfl)
  rw [mid_suf lab m r hm] at h
  exact h

theorem after_any (lab r : ByteArray) (w : World) (hs : lab.size + r.size ≤ 90000000) :
    Calls Try.prog 6 #[.string (lab ++ ⟨#[58, 32]⟩ ++ r), .string lab] w fun e w' => e = .returned (.tuple #[.string r, .bool true]) ∧ w = w' :=
  after_mid lab _ r w rfl rfl rfl (by rw [mid_size _ _ _ rfl]; omega)

end Go.Proofs.Qxb6617643a
