import Derived.Test.Qxb6605179aMaps
namespace Go.Proofs.Qxb6605179a
open Go.ChangeShapes Go.WideShapes Go.ChangeAt Go.RowKit Go.WideMaps Go.Maps
set_option linter.unusedVariables false

/-- it returns some bool -/
def RetBool (e : Ending) : Prop := ∃ b, e = .returned (.bool b)
theorem retBool_mk (b : Bool) : RetBool (.returned (.bool b)) := ⟨b, rfl⟩
def RelZ (l : Nat) (t i : Value) : Prop := ∃ (k : Nat) (n : Int), i = .int .i64 k ∧ t = .int .i64 n ∧ k ≤ l ∧ 0 ≤ n ∧ n ≤ 1048576

set_option maxRecDepth 100000 in
set_option maxHeartbeats 8000000 in
/-- the law's own bound on the sizes: it answers some bool and turns nothing -/
theorem zz_any (x0 x1 x9 : Int) (a2 a3 a4 a5 a6 a7 a8 : Option Addr) (l2 c2 l3 c3 l4 c4 l5 c5 l6 c6 l7 c7 l8 c8 : Nat) (w : World)
    (m2 : l2 ≤ 9223372036854775807) (m3 : l3 ≤ 9223372036854775807) (m4 : l4 ≤ 9223372036854775807) (m5 : l5 ≤ 9223372036854775807) (m6 : l6 ≤ 9223372036854775807) (m7 : l7 ≤ 9223372036854775807) (m8 : l8 ≤ 9223372036854775807)
    (r2 : Hid (StrRow w a2 l2)) (r4 : Hid (StrRow w a4 l4)) (r6 : Hid (StrRow w a6 l6)) (r7 : Hid (StrRow w a7 l7)) :
    Calls Try.prog 13 #[.int .i64 x0, .int .i64 x1, .slice a2 l2 c2, .slice a3 l3 c3, .slice a4 l4 c4, .slice a5 l5 c5, .slice a6 l6 c6, .slice a7 l7 c7, .slice a8 l8 c8, .int .i64 x9] w fun e w' => RetBool e ∧ w' = w := by
  go_enter Try.func13, Try.ntmps13
  by_cases hl2 : l2 ≤ 1048576
  · by_cases gl2 : (0 : Int) + (l2 : Int) ≤ 1048576
    · go_wp2
      go_loop [21, 22] (RelZ l2) (fun _ i => l2 - (intOf i).toNat)
      case atStart => exact ⟨0, _, rfl, rfl, Nat.zero_le _, by omega, by omega⟩
      case round =>
        obtain ⟨k, n22, rfl, rfl, hk, hn022, hn122⟩ := hrel
        by_cases hlt : k < l2
        · obtain ⟨b, off, rfl, hc⟩ := r2.out (by omega)
          obtain ⟨s, hs, hsl⟩ := hc k hlt
          clear r2 hc
          by_cases h1 : s.size ≤ 1048576
          · by_cases h2 : n22 + (s.size : Int) ≤ 1048576
            · go_wp2
              go_round
              case rel => exact ⟨k + 1, _, by go_num, rfl, hlt, by omega, by omega⟩
              case measure => simp [intOf]; omega
            · go_wp2
              go_ret
              exact ⟨retBool_mk _, rfl⟩
          · go_wp2
            go_ret
            exact ⟨retBool_mk _, rfl⟩
        · clear r2
          by_cases hl3 : l3 ≤ 1048576
          · by_cases gl3 : n22 + (l3 : Int) ≤ 1048576
            · by_cases hl4 : l4 ≤ 1048576
              · by_cases gl4 : (n22 + (l3 : Int)) + (l4 : Int) ≤ 1048576
                · go_wp2
                  go_loop [21, 23] (RelZ l4) (fun _ i => l4 - (intOf i).toNat)
                  case atStart => exact ⟨0, _, rfl, rfl, Nat.zero_le _, by omega, by omega⟩
                  case round =>
                    obtain ⟨k, n23, rfl, rfl, hk, hn023, hn123⟩ := hrel
                    by_cases hlt : k < l4
                    · obtain ⟨b, off, rfl, hc⟩ := r4.out (by omega)
                      obtain ⟨s, hs, hsl⟩ := hc k hlt
                      clear r4 hc
                      by_cases h1 : s.size ≤ 1048576
                      · by_cases h2 : n23 + (s.size : Int) ≤ 1048576
                        · go_wp2
                          go_round
                          case rel => exact ⟨k + 1, _, by go_num, rfl, hlt, by omega, by omega⟩
                          case measure => simp [intOf]; omega
                        · go_wp2
                          go_ret
                          exact ⟨retBool_mk _, rfl⟩
                      · go_wp2
                        go_ret
                        exact ⟨retBool_mk _, rfl⟩
                    · clear r4
                      by_cases hl5 : l5 ≤ 1048576
                      · by_cases gl5 : n23 + (l5 : Int) ≤ 1048576
                        · by_cases hl6 : l6 ≤ 1048576
                          · by_cases gl6 : (n23 + (l5 : Int)) + (l6 : Int) ≤ 1048576
                            · go_wp2
                              go_loop [21, 24] (RelZ l6) (fun _ i => l6 - (intOf i).toNat)
                              case atStart => exact ⟨0, _, rfl, rfl, Nat.zero_le _, by omega, by omega⟩
                              case round =>
                                obtain ⟨k, n24, rfl, rfl, hk, hn024, hn124⟩ := hrel
                                by_cases hlt : k < l6
                                · obtain ⟨b, off, rfl, hc⟩ := r6.out (by omega)
                                  obtain ⟨s, hs, hsl⟩ := hc k hlt
                                  clear r6 hc
                                  by_cases h1 : s.size ≤ 1048576
                                  · by_cases h2 : n24 + (s.size : Int) ≤ 1048576
                                    · go_wp2
                                      go_round
                                      case rel => exact ⟨k + 1, _, by go_num, rfl, hlt, by omega, by omega⟩
                                      case measure => simp [intOf]; omega
                                    · go_wp2
                                      go_ret
                                      exact ⟨retBool_mk _, rfl⟩
                                  · go_wp2
                                    go_ret
                                    exact ⟨retBool_mk _, rfl⟩
                                · clear r6
                                  by_cases hl7 : l7 ≤ 1048576
                                  · by_cases gl7 : n24 + (l7 : Int) ≤ 1048576
                                    · go_wp2
                                      go_loop [21, 25] (RelZ l7) (fun _ i => l7 - (intOf i).toNat)
                                      case atStart => exact ⟨0, _, rfl, rfl, Nat.zero_le _, by omega, by omega⟩
                                      case round =>
                                        obtain ⟨k, n25, rfl, rfl, hk, hn025, hn125⟩ := hrel
                                        by_cases hlt : k < l7
                                        · obtain ⟨b, off, rfl, hc⟩ := r7.out (by omega)
                                          obtain ⟨s, hs, hsl⟩ := hc k hlt
                                          clear r7 hc
                                          by_cases h1 : s.size ≤ 1048576
                                          · by_cases h2 : n25 + (s.size : Int) ≤ 1048576
                                            · go_wp2
                                              go_round
                                              case rel => exact ⟨k + 1, _, by go_num, rfl, hlt, by omega, by omega⟩
                                              case measure => simp [intOf]; omega
                                            · go_wp2
                                              go_ret
                                              exact ⟨retBool_mk _, rfl⟩
                                          · go_wp2
                                            go_ret
                                            exact ⟨retBool_mk _, rfl⟩
                                        · clear r7
                                          by_cases hl8 : l8 ≤ 1048576
                                          · by_cases gl8 : n25 + (l8 : Int) ≤ 1048576
                                            · go_wp2
                                              go_ret
                                              exact ⟨retBool_mk _, rfl⟩
                                            · go_wp2
                                              go_ret
                                              exact ⟨retBool_mk _, rfl⟩
                                          · go_wp2
                                            go_ret
                                            exact ⟨retBool_mk _, rfl⟩
                                    · go_wp2
                                      go_ret
                                      exact ⟨retBool_mk _, rfl⟩
                                  · go_wp2
                                    go_ret
                                    exact ⟨retBool_mk _, rfl⟩
                            · go_wp2
                              go_ret
                              exact ⟨retBool_mk _, rfl⟩
                          · go_wp2
                            go_ret
                            exact ⟨retBool_mk _, rfl⟩
                        · go_wp2
                          go_ret
                          exact ⟨retBool_mk _, rfl⟩
                      · go_wp2
                        go_ret
                        exact ⟨retBool_mk _, rfl⟩
                · go_wp2
                  go_ret
                  exact ⟨retBool_mk _, rfl⟩
              · go_wp2
                go_ret
                exact ⟨retBool_mk _, rfl⟩
            · go_wp2
              go_ret
              exact ⟨retBool_mk _, rfl⟩
          · go_wp2
            go_ret
            exact ⟨retBool_mk _, rfl⟩
    · exact absurd gl2 (by omega)
  · go_wp2
    go_ret
    exact ⟨retBool_mk _, rfl⟩

end Go.Proofs.Qxb6605179a
