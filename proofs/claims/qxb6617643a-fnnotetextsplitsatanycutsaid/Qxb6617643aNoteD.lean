import Derived.Test.Qxb6617643aNoteC
namespace Go.Proofs.Qxb6617643a
open Go.RowKit
set_option linter.unusedVariables false

set_option maxHeartbeats 4000000 in
theorem main_some (c k : Int) (a : Addr) (len cap : Nat) (xs : List ByteArray) (what : ByteArray) (w : World) (hw : what.size ≤ maxLen) (hlc : len ≤ cap) (hm : cap ≤ maxLen)
    (hc : ∀ j, j < len → w.cell? (a.add j) = some (.string (xs.getD j ByteArray.empty))) (hxl : xs.length = len)
    (HB : Calls Try.prog 4 #[.int .i64 c, .slice (some a) len cap, .string what, .int .i64 k] w fun e w' => RetS (SzOk xs len) e ∧ w = w') :
    Calls Try.prog 3 #[.int .i64 c, .slice (some a) len cap, .string what, .int .i64 k] w fun e w' => e = .returned (.bool true) ∧ Below w.heap.size w w' := by
  by_cases hwb : (1048576 : Int) < what.size
  · unfold maxLen at hw hm
    go_enter Try.func3, Try.ntmps3
    go_wp2_with fail
    refine HB.mono ?_
    rintro e w' ⟨⟨bb, rfl, hbb⟩, rfl⟩
    clear hbb
    cases bb
    all_goals
      go_wp2
      go_ret
      exact ⟨rfl, Below.refl _ _⟩
  by_cases hlb : (65536 : Int) < len
  · unfold maxLen at hw hm
    go_enter Try.func3, Try.ntmps3
    go_wp2_with fail
    refine HB.mono ?_
    rintro e w' ⟨⟨bb, rfl, hbb⟩, rfl⟩
    clear hbb
    cases bb
    all_goals
      go_wp2
      go_ret
      exact ⟨rfl, Below.refl _ _⟩
  unfold maxLen at hw hm
  have hneq := fun W => run_neq_slice_nil_any (P := Try.prog) W 22 9 (some a) len cap 0 0 Try.underlying22
  have hmk := fun W => run_make_row' (P := Try.prog) 22 9 (.string ⟨#[]⟩) 16 Try.underlying22 info9 rfl .i64 .i64 len (by omega) (by omega) W
  go_enter Try.func3, Try.ntmps3
  go_wp2_with fail
  refine HB.mono ?_
  rintro e w' ⟨⟨bb, rfl, hbb⟩, rfl⟩
  cases bb
  · go_wp2
    go_ret
    exact ⟨rfl, Below.refl _ _⟩
  · have hszk : SzOk xs len := hbb rfl
    clear hbb
    obtain ⟨w1, hcopy, hB1, hz1, hcell1⟩ := copy_made w a len cap xs (by omega) hc
    clear hc
    have HX : Hid _ := hxl
    clear hxl
    go_wp2
    go_loop [10, 11] (fun t i => ∃ m : Nat, m ≤ len ∧ i = .int .i64 m ∧ t = .int .i64 (what.size + tot (xs.take m)) ∧ what.size + tot (xs.take m) ≤ 1048576) (fun _ i => len - (intOf i).toNat)
    case atStart => exact ⟨0, Nat.zero_le _, rfl, by simp [tot], by simp [tot]; omega⟩
    case round =>
      obtain ⟨m, hm1, rfl, rfl, hmt⟩ := hrel
      by_cases hlt : m < len
      · have hcell := hcell1 m hlt
        have hs := hszk m hlt
        have hsucc : Hid _ := tot_take_succ xs m (by rw [HX.out]; exact hlt)
        clear hcell1 hcopy hmk hneq
        obtain ⟨x, hx⟩ : ∃ x, x = xs.getD m ByteArray.empty := ⟨_, rfl⟩
        rw [← hx] at hcell hs hsucc
        clear hx
        go_wp2
        · go_ret
          exact ⟨rfl, hB1⟩
        · go_round
          case rel => exact ⟨m + 1, by omega, by go_num, by rw [hsucc.out]; go_num, by rw [hsucc.out]; omega⟩
          case measure => simp [intOf]; omega
      · clear hcopy hmk hneq
        obtain rfl : m = len := by omega
        rw [← HX.out, List.take_length] at hmt
        have HT : Hid (what.size + tot xs ≤ 1048576) := hmt
        clear hmt
        by_cases hk0 : k < 0
        · go_wp2
          go_ret
          exact ⟨rfl, hB1⟩
        by_cases hk1 : (m : Int) < k
        · go_wp2
          go_ret
          exact ⟨rfl, hB1⟩
        obtain ⟨kn, rfl⟩ : ∃ kn : Nat, k = kn := ⟨k.toNat, by omega⟩
        clear hw
        have hxl : xs.length = m := HX.out
        have hwb' : what.size ≤ 1048576 := by omega
        have hTx : tot xs ≤ 1048576 := by have := HT.out; omega
        have hm65 : m ≤ 65536 := by omega
        have hB0 : Below w1.heap.size w1 w1 := Below.refl _ _
        obtain ⟨JF, hJF⟩ : ∃ J, joined ((xs.drop 0).take m) = J := ⟨_, rfl⟩
        obtain ⟨J1, hJ1⟩ : ∃ J, joined ((xs.drop 0).take kn) = J := ⟨_, rfl⟩
        obtain ⟨J2, hJ2⟩ : ∃ J, joined ((xs.drop kn).take (m - kn)) = J := ⟨_, rfl⟩
        have hs1 := joined_size_le ((xs.drop 0).take kn)
        have hs2 := joined_size_le ((xs.drop kn).take (m - kn))
        have hsF := joined_size_le ((xs.drop 0).take m)
        have ht1 := tot_sub xs 0 kn
        have ht2 := tot_sub xs kn (m - kn)
        have htF := tot_sub xs 0 m
        rw [hJ1] at hs1
        rw [hJ2] at hs2
        rw [hJF] at hsF
        have hJ1z : J1.size ≤ 1048576 := by omega
        have hJ2z : J2.size ≤ 1048576 := by omega
        have hJFz : JF.size ≤ 1048576 := by omega
        clear hs1 hs2 hsF ht1 ht2 htF
        have HF : Hid _ := fun wi hB => note_cut c w.heap.size m xs hxl what JF w1 wi hcell1 hz1 hB 0 m m (by omega) (by omega) hJF hTx hwb' hm65
        have HH : Hid _ := fun wi hB => note_cut c w.heap.size m xs hxl what J1 w1 wi hcell1 hz1 hB 0 kn m (by omega) (by omega) hJ1 hTx hwb' hm65
        have HE : Hid _ := fun wi hB => note_empty c (some ⟨w.heap.size, 0, none⟩) m what w1 wi hB hwb'
        have AH : Hid _ := fun wi => after_any what J1 wi (by omega)
        have AT : Hid _ := fun wi => after_any ⟨#[]⟩ J2 wi (by show 0 + _ ≤ _; omega)
        have AF : Hid _ := fun wi => after_any what JF wi (by omega)
        have hls := lab_size what JF hwb'
        by_cases hkm : kn < m
        · have HTl : Hid _ := fun wi hB => note_cut c w.heap.size m xs hxl ⟨#[]⟩ J2 w1 wi hcell1 hz1 hB kn (m - kn) (m - kn) (by omega) (by omega) hJ2 hTx (by show 0 ≤ _; omega) hm65
          obtain ⟨x, hx⟩ : ∃ x, xs.getD kn ByteArray.empty = x := ⟨_, rfl⟩
          have hxz : x.size ≤ 1048576 := by rw [← hx]; exact hszk kn hkm
          have HO : Hid _ := fun wi hB => note_cut c w.heap.size m xs hxl what x w1 wi hcell1 hz1 hB kn 1 (m - kn) (by omega) (by omega) (by rw [joined_at xs kn (by omega), hx]) hTx hwb' hm65
          have HC := hcell1 kn hkm
          rw [hx] at HC
          have HCC : Hid _ := HC
          have HJJ : Hid (0 < kn → JF = J1 ++ ⟨#[44, 32, 97, 110, 100, 32]⟩ ++ J2) := by
            intro h0
            have := joined_cut xs kn h0 (by omega)
            rw [← hJF, ← hJ1, ← hJ2]
            rw [List.drop_zero, show List.take m xs = xs from List.take_of_length_le (by omega), show List.take (m - kn) (xs.drop kn) = xs.drop kn from List.take_of_length_le (by rw [List.length_drop]; omega)]
            exact this
          have HJ0 : Hid (kn = 0 → JF = J2) := by
            rintro rfl
            rw [← hJF, ← hJ2, Nat.sub_zero]
          clear hx HC hcell1 hJF hJ1 hJ2 hxl
          by_cases hkz : kn = 0
          · obtain rfl : JF = J2 := HJ0.out hkz
            clear HJJ HJ0
            have HKZ : Hid _ := hkz
            subst hkz
            go_wp2_with fail
            refine (HF.out _ hB0).mono ?_
            rintro e w2 ⟨rfl, hB2⟩
            go_wp2_with fail
            refine (HH.out _ hB2).mono ?_
            rintro e w3 ⟨rfl, hB3⟩
            go_wp2_with fail
            refine (HTl.out _ hB3).mono ?_
            rintro e w4 ⟨rfl, hB4⟩
            go_wp2_with fail
            refine (HE.out _ hB4).mono ?_
            rintro e w5 ⟨rfl, hB5⟩
            go_wp2_with fail
            refine (AH.out _).mono ?_
            rintro e w6 ⟨rfl, rfl⟩
            go_wp2_with fail
            refine (AT.out _).mono ?_
            rintro e w6 ⟨rfl, rfl⟩
            go_wp2_with fail
            refine (AF.out _).mono ?_
            rintro e w6 ⟨rfl, rfl⟩
            go_wp2_with fail
            refine (HO.out _ hB5).mono ?_
            rintro e w6 ⟨rfl, hB6⟩
            have hck : w6.cell? ⟨w.heap.size, 0, none⟩ = some (.string x) := by rw [hB6.cell (p := ⟨w.heap.size, 0, none⟩) hz1]; exact HCC.out
            go_wp2
            go_ret
            exact ⟨rfl, hB1.trans (hB6.mono (by omega))⟩
          · obtain rfl := HJJ.out (by omega)
            clear HJJ HJ0
            obtain ⟨hq1, hq2⟩ := sep_size J1 J2 hJ1z hJ2z
            have hkz' : ((kn : Int) == 0) = false := by simp; omega
            go_wp2_with fail
            refine (HF.out _ hB0).mono ?_
            rintro e w2 ⟨rfl, hB2⟩
            go_wp2_with fail
            refine (HH.out _ hB2).mono ?_
            rintro e w3 ⟨rfl, hB3⟩
            go_wp2_with fail
            refine (HTl.out _ hB3).mono ?_
            rintro e w4 ⟨rfl, hB4⟩
            go_wp2_with fail
            refine (HE.out _ hB4).mono ?_
            rintro e w5 ⟨rfl, hB5⟩
            go_wp2_with fail
            refine (AH.out _).mono ?_
            rintro e w6 ⟨rfl, rfl⟩
            go_wp2_with fail
            refine (AT.out _).mono ?_
            rintro e w6 ⟨rfl, rfl⟩
            go_wp2_with fail
            refine (AF.out _).mono ?_
            rintro e w6 ⟨rfl, rfl⟩
            go_wp2_with fail
            refine (HO.out _ hB5).mono ?_
            rintro e w6 ⟨rfl, hB6⟩
            have hck : w6.cell? ⟨w.heap.size, kn, none⟩ = some (.string x) := by rw [hB6.cell (p := ⟨w.heap.size, kn, none⟩) hz1]; exact HCC.out
            go_wp2
            go_ret
            exact ⟨rfl, hB1.trans (hB6.mono (by omega))⟩
        · obtain rfl : kn = m := by omega
          have HTl : Hid _ := fun wi hB => note_tail c (some ⟨w.heap.size, 0, none⟩) 0 ⟨#[]⟩ J2 w1 wi hB (by rw [← hJ2]; simp) (by show 0 ≤ _; omega)
          obtain rfl : JF = J1 := by rw [← hJF, ← hJ1]
          by_cases hkz : kn = 0
          · obtain rfl : JF = J2 := by rw [← hJ1, ← hJ2, hkz]
            clear hcell1 hJF hJ1 hJ2 hxl HX HT
            subst hkz
            go_wp2_with fail
            refine (HF.out _ hB0).mono ?_
            rintro e w2 ⟨rfl, hB2⟩
            go_wp2_with fail
            refine (HH.out _ hB2).mono ?_
            rintro e w3 ⟨rfl, hB3⟩
            go_wp2_with fail
            refine (HTl.out _ hB3).mono ?_
            rintro e w4 ⟨rfl, hB4⟩
            go_wp2_with fail
            refine (HE.out _ hB4).mono ?_
            rintro e w5 ⟨rfl, hB5⟩
            go_wp2_with fail
            refine (AH.out _).mono ?_
            rintro e w6 ⟨rfl, rfl⟩
            go_wp2_with fail
            refine (AT.out _).mono ?_
            rintro e w6 ⟨rfl, rfl⟩
            go_wp2_with fail
            refine (AF.out _).mono ?_
            rintro e w6 ⟨rfl, rfl⟩
            go_wp2
            go_ret
            exact ⟨rfl, hB1.trans (hB5.mono (by omega))⟩
          · have hkz' : ((kn : Int) == 0) = false := by simp; omega
            clear hcell1 hJF hJ1 hJ2 hxl
            go_wp2_with fail
            refine (HF.out _ hB0).mono ?_
            rintro e w2 ⟨rfl, hB2⟩
            go_wp2_with fail
            refine (HH.out _ hB2).mono ?_
            rintro e w3 ⟨rfl, hB3⟩
            go_wp2_with fail
            refine (HTl.out _ hB3).mono ?_
            rintro e w4 ⟨rfl, hB4⟩
            go_wp2_with fail
            refine (HE.out _ hB4).mono ?_
            rintro e w5 ⟨rfl, hB5⟩
            go_wp2_with fail
            refine (AH.out _).mono ?_
            rintro e w6 ⟨rfl, rfl⟩
            go_wp2_with fail
            refine (AT.out _).mono ?_
            rintro e w6 ⟨rfl, rfl⟩
            go_wp2_with fail
            refine (AF.out _).mono ?_
            rintro e w6 ⟨rfl, rfl⟩
            go_wp2
            go_ret
            exact ⟨rfl, hB1.trans (hB5.mono (by omega))⟩

end Go.Proofs.Qxb6617643a
