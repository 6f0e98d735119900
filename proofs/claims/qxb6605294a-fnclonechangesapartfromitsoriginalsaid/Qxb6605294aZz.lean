import Derived.Test.Qxb6605294aMem2
set_option maxRecDepth 100000
namespace Go.Proofs.Qxb6605294a
open Go.ChangeShapes Go.WideShapes Go.ChangeAt Go.RowKit
set_option linter.unusedVariables false
/-- the lengths of the lists, summed -/
def tot : List (List Int) → Nat
  | [] => 0
  | xs :: xss => xs.length + tot xss
theorem tot_take {xss : List (List Int)} {k : Nat} {xs : List Int} (h : xss.drop k = xs :: xss.drop (k + 1)) : tot (xss.drop k) = xs.length + tot (xss.drop (k + 1)) := by rw [h]; rfl
def RetZ (n : Nat) (e : Ending) : Prop := ∃ b, e = .returned (.bool b) ∧ Hid (b = true → n ≤ 1048576)
theorem retZ_no {n : Nat} : RetZ n (.returned (.bool false)) := ⟨false, rfl, fun h => (by cases h)⟩
theorem retZ_yes {n : Nat} (h : n ≤ 1048576) : RetZ n (.returned (.bool true)) := ⟨true, rfl, fun _ => h⟩

set_option maxHeartbeats 8000000 in
theorem zz_any (a0 : Option Addr) (c0 : Nat) (A0 : List (List Int)) (a1 : Option Addr) (c1 : Nat) (A1 : List (List Int)) (a2 : Option Addr) (c2 : Nat) (A2 : List (List Int)) (a3 : Option Addr) (c3 : Nat) (A3 : List (List Int)) (a4 : Option Addr) (c4 : Nat) (A4 : List (List Int)) (a5 : Option Addr) (c5 : Nat) (K5 : List (Int × Int)) (a6 : Option Addr) (c6 : Nat) (V6 : List Int) (a7 : Option Addr) (c7 : Nat) (A7 : List (List Int)) (a8 : Option Addr) (c8 : Nat) (B8 : List Bool) (a9 : Option Addr) (c9 : Nat) (P9 : List Int) (a10 : Option Addr) (c10 : Nat) (Q10 : List Bool) (w : World) (m0 : A0.length ≤ 9223372036854775807) (m1 : A1.length ≤ 9223372036854775807) (m2 : A2.length ≤ 9223372036854775807) (m3 : A3.length ≤ 9223372036854775807) (m4 : A4.length ≤ 9223372036854775807) (m5 : K5.length ≤ 9223372036854775807) (m6 : V6.length ≤ 9223372036854775807) (m7 : A7.length ≤ 9223372036854775807) (m8 : B8.length ≤ 9223372036854775807) (m9 : P9.length ≤ 9223372036854775807) (m10 : Q10.length ≤ 9223372036854775807) (H0 : Hid (LRow w a0 A0)) (I0 : Hid (∀ i, (A0.getD i []).length ≤ 9223372036854775807)) (H1 : Hid (LRow w a1 A1)) (I1 : Hid (∀ i, (A1.getD i []).length ≤ 9223372036854775807)) (H2 : Hid (LRow w a2 A2)) (I2 : Hid (∀ i, (A2.getD i []).length ≤ 9223372036854775807)) (H3 : Hid (LRow w a3 A3)) (I3 : Hid (∀ i, (A3.getD i []).length ≤ 9223372036854775807)) (H4 : Hid (LRow w a4 A4)) (I4 : Hid (∀ i, (A4.getD i []).length ≤ 9223372036854775807)) (H7 : Hid (LRow w a7 A7)) (I7 : Hid (∀ i, (A7.getD i []).length ≤ 9223372036854775807)) :
    Calls Try.prog 27 #[.slice a0 A0.length c0, .slice a1 A1.length c1, .slice a2 A2.length c2, .slice a3 A3.length c3, .slice a4 A4.length c4, .slice a5 K5.length c5, .slice a6 V6.length c6, .slice a7 A7.length c7, .slice a8 B8.length c8, .slice a9 P9.length c9, .slice a10 Q10.length c10] w fun e w' => RetZ ((A0.length + tot A0) + (A1.length + tot A1) + (A2.length + tot A2) + (A3.length + tot A3) + (A4.length + tot A4) + (K5.length) + (V6.length) + (A7.length + tot A7) + (B8.length) + (P9.length) + (Q10.length)) e ∧ Hid (Below w.heap.size w w') := by
  obtain ⟨N, hN⟩ : ∃ N, N = (A0.length + tot A0) + (A1.length + tot A1) + (A2.length + tot A2) + (A3.length + tot A3) + (A4.length + tot A4) + (K5.length) + (V6.length) + (A7.length + tot A7) + (B8.length) + (P9.length) + (Q10.length) := ⟨_, rfl⟩
  rw [← hN]
  have HN0 := hid hN
  clear hN
  go_enter Try.func27, Try.ntmps27
  by_cases g0 : A0.length ≤ 1048576
  · have t0 : 0 + A0.length ≤ 1048576 := by omega
    go_wp2_with fail
    go_loopw [23, 24] (fun n i wr => ∃ k s : Nat, k ≤ A0.length ∧ i = .int .i64 k ∧ n = .int .i64 s ∧ s ≤ 1048576 ∧ Hid (s + tot (A0.drop k) = 0 + A0.length + tot A0) ∧ Hid (Below w.heap.size w wr)) (fun _ i _ => A0.length - (intOf i).toNat)
    case atStart => exact ⟨0, 0 + A0.length, Nat.zero_le _, rfl, by first | rfl | simp, by omega, rfl, Below.refl _ _⟩
    case round =>
      obtain ⟨k, s0, hk, rfl, rfl, hs0, HS0, HW0⟩ := hrel
      by_cases hlt : k < A0.length
      · obtain ⟨b, off, ai, ci, xs, rfl, d1, _, _, _, HX, HD⟩ := H0.out.get HW0.out hlt
        have hxl : xs.length ≤ 9223372036854775807 := by rw [← HX.out]; exact I0.out k
        have ht := hid (tot_take HD.out)
        clear HX HD
        by_cases gx : xs.length ≤ 1048576
        · by_cases tx : s0 + xs.length ≤ 1048576
          · have HN := hid (show s0 + xs.length + tot (A0.drop (k + 1)) = 0 + A0.length + tot A0 by have := HS0.out; have := ht.out; omega)
            go_wp2_with fail
            go_roundw
            case rel => exact ⟨k + 1, s0 + xs.length, hlt, by go_num, by first | rfl | simp, tx, HN, HW0⟩
            case measure => simp [intOf]; omega
          · go_wp2_with fail
            go_ret
            exact ⟨retZ_no, HW0⟩
        · go_wp2_with fail
          go_ret
          exact ⟨retZ_no, HW0⟩
      · have HE0 := hid (show s0 = 0 + A0.length + tot A0 by have := HS0.out; rw [List.drop_of_length_le (by omega)] at this; simpa [tot] using this)
        clear HS0 g0 t0 H0 I0
        by_cases g1 : A1.length ≤ 1048576
        · by_cases t1 : s0 + A1.length ≤ 1048576
          · go_wp2_with fail
            go_loopw [23, 25] (fun n i wr => ∃ k s : Nat, k ≤ A1.length ∧ i = .int .i64 k ∧ n = .int .i64 s ∧ s ≤ 1048576 ∧ Hid (s + tot (A1.drop k) = s0 + A1.length + tot A1) ∧ Hid (Below w.heap.size w wr)) (fun _ i _ => A1.length - (intOf i).toNat)
            case atStart => exact ⟨0, s0 + A1.length, Nat.zero_le _, rfl, by first | rfl | simp, by omega, rfl, HW0⟩
            case round =>
              obtain ⟨k, s1, hk, rfl, rfl, hs1, HS1, HW1⟩ := hrel
              by_cases hlt : k < A1.length
              · obtain ⟨b, off, ai, ci, xs, rfl, d1, _, _, _, HX, HD⟩ := H1.out.get HW1.out hlt
                have hxl : xs.length ≤ 9223372036854775807 := by rw [← HX.out]; exact I1.out k
                have ht := hid (tot_take HD.out)
                clear HX HD
                by_cases gx : xs.length ≤ 1048576
                · by_cases tx : s1 + xs.length ≤ 1048576
                  · have HN := hid (show s1 + xs.length + tot (A1.drop (k + 1)) = s0 + A1.length + tot A1 by have := HS1.out; have := ht.out; omega)
                    go_wp2_with fail
                    go_roundw
                    case rel => exact ⟨k + 1, s1 + xs.length, hlt, by go_num, by first | rfl | simp, tx, HN, HW1⟩
                    case measure => simp [intOf]; omega
                  · go_wp2_with fail
                    go_ret
                    exact ⟨retZ_no, HW1⟩
                · go_wp2_with fail
                  go_ret
                  exact ⟨retZ_no, HW1⟩
              · have HE1 := hid (show s1 = s0 + A1.length + tot A1 by have := HS1.out; rw [List.drop_of_length_le (by omega)] at this; simpa [tot] using this)
                clear HS1 g1 t1 H1 I1
                by_cases g2 : A2.length ≤ 1048576
                · by_cases t2 : s1 + A2.length ≤ 1048576
                  · go_wp2_with fail
                    go_loopw [23, 26] (fun n i wr => ∃ k s : Nat, k ≤ A2.length ∧ i = .int .i64 k ∧ n = .int .i64 s ∧ s ≤ 1048576 ∧ Hid (s + tot (A2.drop k) = s1 + A2.length + tot A2) ∧ Hid (Below w.heap.size w wr)) (fun _ i _ => A2.length - (intOf i).toNat)
                    case atStart => exact ⟨0, s1 + A2.length, Nat.zero_le _, rfl, by first | rfl | simp, by omega, rfl, HW1⟩
                    case round =>
                      obtain ⟨k, s2, hk, rfl, rfl, hs2, HS2, HW2⟩ := hrel
                      by_cases hlt : k < A2.length
                      · obtain ⟨b, off, ai, ci, xs, rfl, d1, _, _, _, HX, HD⟩ := H2.out.get HW2.out hlt
                        have hxl : xs.length ≤ 9223372036854775807 := by rw [← HX.out]; exact I2.out k
                        have ht := hid (tot_take HD.out)
                        clear HX HD
                        by_cases gx : xs.length ≤ 1048576
                        · by_cases tx : s2 + xs.length ≤ 1048576
                          · have HN := hid (show s2 + xs.length + tot (A2.drop (k + 1)) = s1 + A2.length + tot A2 by have := HS2.out; have := ht.out; omega)
                            go_wp2_with fail
                            go_roundw
                            case rel => exact ⟨k + 1, s2 + xs.length, hlt, by go_num, by first | rfl | simp, tx, HN, HW2⟩
                            case measure => simp [intOf]; omega
                          · go_wp2_with fail
                            go_ret
                            exact ⟨retZ_no, HW2⟩
                        · go_wp2_with fail
                          go_ret
                          exact ⟨retZ_no, HW2⟩
                      · have HE2 := hid (show s2 = s1 + A2.length + tot A2 by have := HS2.out; rw [List.drop_of_length_le (by omega)] at this; simpa [tot] using this)
                        clear HS2 g2 t2 H2 I2
                        by_cases g3 : A3.length ≤ 1048576
                        · by_cases t3 : s2 + A3.length ≤ 1048576
                          · go_wp2_with fail
                            go_loopw [23, 27] (fun n i wr => ∃ k s : Nat, k ≤ A3.length ∧ i = .int .i64 k ∧ n = .int .i64 s ∧ s ≤ 1048576 ∧ Hid (s + tot (A3.drop k) = s2 + A3.length + tot A3) ∧ Hid (Below w.heap.size w wr)) (fun _ i _ => A3.length - (intOf i).toNat)
                            case atStart => exact ⟨0, s2 + A3.length, Nat.zero_le _, rfl, by first | rfl | simp, by omega, rfl, HW2⟩
                            case round =>
                              obtain ⟨k, s3, hk, rfl, rfl, hs3, HS3, HW3⟩ := hrel
                              by_cases hlt : k < A3.length
                              · obtain ⟨b, off, ai, ci, xs, rfl, d1, _, _, _, HX, HD⟩ := H3.out.get HW3.out hlt
                                have hxl : xs.length ≤ 9223372036854775807 := by rw [← HX.out]; exact I3.out k
                                have ht := hid (tot_take HD.out)
                                clear HX HD
                                by_cases gx : xs.length ≤ 1048576
                                · by_cases tx : s3 + xs.length ≤ 1048576
                                  · have HN := hid (show s3 + xs.length + tot (A3.drop (k + 1)) = s2 + A3.length + tot A3 by have := HS3.out; have := ht.out; omega)
                                    go_wp2_with fail
                                    go_roundw
                                    case rel => exact ⟨k + 1, s3 + xs.length, hlt, by go_num, by first | rfl | simp, tx, HN, HW3⟩
                                    case measure => simp [intOf]; omega
                                  · go_wp2_with fail
                                    go_ret
                                    exact ⟨retZ_no, HW3⟩
                                · go_wp2_with fail
                                  go_ret
                                  exact ⟨retZ_no, HW3⟩
                              · have HE3 := hid (show s3 = s2 + A3.length + tot A3 by have := HS3.out; rw [List.drop_of_length_le (by omega)] at this; simpa [tot] using this)
                                clear HS3 g3 t3 H3 I3
                                by_cases g4 : A4.length ≤ 1048576
                                · by_cases t4 : s3 + A4.length ≤ 1048576
                                  · go_wp2_with fail
                                    go_loopw [23, 28] (fun n i wr => ∃ k s : Nat, k ≤ A4.length ∧ i = .int .i64 k ∧ n = .int .i64 s ∧ s ≤ 1048576 ∧ Hid (s + tot (A4.drop k) = s3 + A4.length + tot A4) ∧ Hid (Below w.heap.size w wr)) (fun _ i _ => A4.length - (intOf i).toNat)
                                    case atStart => exact ⟨0, s3 + A4.length, Nat.zero_le _, rfl, by first | rfl | simp, by omega, rfl, HW3⟩
                                    case round =>
                                      obtain ⟨k, s4, hk, rfl, rfl, hs4, HS4, HW4⟩ := hrel
                                      by_cases hlt : k < A4.length
                                      · obtain ⟨b, off, ai, ci, xs, rfl, d1, _, _, _, HX, HD⟩ := H4.out.get HW4.out hlt
                                        have hxl : xs.length ≤ 9223372036854775807 := by rw [← HX.out]; exact I4.out k
                                        have ht := hid (tot_take HD.out)
                                        clear HX HD
                                        by_cases gx : xs.length ≤ 1048576
                                        · by_cases tx : s4 + xs.length ≤ 1048576
                                          · have HN := hid (show s4 + xs.length + tot (A4.drop (k + 1)) = s3 + A4.length + tot A4 by have := HS4.out; have := ht.out; omega)
                                            go_wp2_with fail
                                            go_roundw
                                            case rel => exact ⟨k + 1, s4 + xs.length, hlt, by go_num, by first | rfl | simp, tx, HN, HW4⟩
                                            case measure => simp [intOf]; omega
                                          · go_wp2_with fail
                                            go_ret
                                            exact ⟨retZ_no, HW4⟩
                                        · go_wp2_with fail
                                          go_ret
                                          exact ⟨retZ_no, HW4⟩
                                      · have HE4 := hid (show s4 = s3 + A4.length + tot A4 by have := HS4.out; rw [List.drop_of_length_le (by omega)] at this; simpa [tot] using this)
                                        clear HS4 g4 t4 H4 I4
                                        by_cases g5 : K5.length ≤ 1048576
                                        · by_cases t5 : s4 + K5.length ≤ 1048576
                                          · skip
                                            by_cases g6 : V6.length ≤ 1048576
                                            · by_cases t6 : (s4 + K5.length) + V6.length ≤ 1048576
                                              · skip
                                                by_cases g7 : A7.length ≤ 1048576
                                                · by_cases t7 : ((s4 + K5.length) + V6.length) + A7.length ≤ 1048576
                                                  · go_wp2_with fail
                                                    go_loopw [23, 29] (fun n i wr => ∃ k s : Nat, k ≤ A7.length ∧ i = .int .i64 k ∧ n = .int .i64 s ∧ s ≤ 1048576 ∧ Hid (s + tot (A7.drop k) = ((s4 + K5.length) + V6.length) + A7.length + tot A7) ∧ Hid (Below w.heap.size w wr)) (fun _ i _ => A7.length - (intOf i).toNat)
                                                    case atStart => exact ⟨0, ((s4 + K5.length) + V6.length) + A7.length, Nat.zero_le _, rfl, by first | rfl | simp, by omega, rfl, HW4⟩
                                                    case round =>
                                                      obtain ⟨k, s7, hk, rfl, rfl, hs7, HS7, HW7⟩ := hrel
                                                      by_cases hlt : k < A7.length
                                                      · obtain ⟨b, off, ai, ci, xs, rfl, d1, _, _, _, HX, HD⟩ := H7.out.get HW7.out hlt
                                                        have hxl : xs.length ≤ 9223372036854775807 := by rw [← HX.out]; exact I7.out k
                                                        have ht := hid (tot_take HD.out)
                                                        clear HX HD
                                                        by_cases gx : xs.length ≤ 1048576
                                                        · by_cases tx : s7 + xs.length ≤ 1048576
                                                          · have HN := hid (show s7 + xs.length + tot (A7.drop (k + 1)) = ((s4 + K5.length) + V6.length) + A7.length + tot A7 by have := HS7.out; have := ht.out; omega)
                                                            go_wp2_with fail
                                                            go_roundw
                                                            case rel => exact ⟨k + 1, s7 + xs.length, hlt, by go_num, by first | rfl | simp, tx, HN, HW7⟩
                                                            case measure => simp [intOf]; omega
                                                          · go_wp2_with fail
                                                            go_ret
                                                            exact ⟨retZ_no, HW7⟩
                                                        · go_wp2_with fail
                                                          go_ret
                                                          exact ⟨retZ_no, HW7⟩
                                                      · have HE7 := hid (show s7 = ((s4 + K5.length) + V6.length) + A7.length + tot A7 by have := HS7.out; rw [List.drop_of_length_le (by omega)] at this; simpa [tot] using this)
                                                        clear HS7 g7 t7 H7 I7
                                                        by_cases g8 : B8.length ≤ 1048576
                                                        · by_cases t8 : s7 + B8.length ≤ 1048576
                                                          · skip
                                                            by_cases g9 : P9.length ≤ 1048576
                                                            · by_cases t9 : (s7 + B8.length) + P9.length ≤ 1048576
                                                              · skip
                                                                by_cases g10 : Q10.length ≤ 1048576
                                                                · by_cases t10 : ((s7 + B8.length) + P9.length) + Q10.length ≤ 1048576
                                                                  · skip
                                                                    have HT := hid (show N ≤ 1048576 by have := HN0.out; have := HE0.out; have := HE1.out; have := HE2.out; have := HE3.out; have := HE4.out; have := HE7.out; omega)
                                                                    go_wp2_with fail
                                                                    go_ret
                                                                    exact ⟨retZ_yes HT.out, HW7⟩
                                                                  · go_wp2_with fail
                                                                    go_ret
                                                                    exact ⟨retZ_no, HW7⟩
                                                                · go_wp2_with fail
                                                                  go_ret
                                                                  exact ⟨retZ_no, HW7⟩
                                                              · go_wp2_with fail
                                                                go_ret
                                                                exact ⟨retZ_no, HW7⟩
                                                            · go_wp2_with fail
                                                              go_ret
                                                              exact ⟨retZ_no, HW7⟩
                                                          · go_wp2_with fail
                                                            go_ret
                                                            exact ⟨retZ_no, HW7⟩
                                                        · go_wp2_with fail
                                                          go_ret
                                                          exact ⟨retZ_no, HW7⟩
                                                  · go_wp2_with fail
                                                    go_ret
                                                    exact ⟨retZ_no, HW4⟩
                                                · go_wp2_with fail
                                                  go_ret
                                                  exact ⟨retZ_no, HW4⟩
                                              · go_wp2_with fail
                                                go_ret
                                                exact ⟨retZ_no, HW4⟩
                                            · go_wp2_with fail
                                              go_ret
                                              exact ⟨retZ_no, HW4⟩
                                          · go_wp2_with fail
                                            go_ret
                                            exact ⟨retZ_no, HW4⟩
                                        · go_wp2_with fail
                                          go_ret
                                          exact ⟨retZ_no, HW4⟩
                                  · go_wp2_with fail
                                    go_ret
                                    exact ⟨retZ_no, HW3⟩
                                · go_wp2_with fail
                                  go_ret
                                  exact ⟨retZ_no, HW3⟩
                          · go_wp2_with fail
                            go_ret
                            exact ⟨retZ_no, HW2⟩
                        · go_wp2_with fail
                          go_ret
                          exact ⟨retZ_no, HW2⟩
                  · go_wp2_with fail
                    go_ret
                    exact ⟨retZ_no, HW1⟩
                · go_wp2_with fail
                  go_ret
                  exact ⟨retZ_no, HW1⟩
          · go_wp2_with fail
            go_ret
            exact ⟨retZ_no, HW0⟩
        · go_wp2_with fail
          go_ret
          exact ⟨retZ_no, HW0⟩
  · go_wp2_with fail
    go_ret
    exact ⟨retZ_no, Below.refl _ _⟩
end Go.Proofs.Qxb6605294a
