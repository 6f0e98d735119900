import Derived.Test.Qxb6605294aMem2
set_option maxRecDepth 100000
namespace Go.Proofs.Qxb6605294a
open Go.ChangeShapes Go.WideShapes Go.ChangeAt Go.RowKit
set_option linter.unusedVariables false

/-- some number -/
def RetI (e : Ending) : Prop := ∃ n : Int, e = .returned (.int .i64 n)
theorem bytesOf_any (x c : Int) (w : World) : Calls Try.prog 55 #[.int .i64 x, .int .i64 c] w fun e w' => RetI e ∧ Hid (Below w.heap.size w w') := by
  by_cases h : 1048576 < x
  · go_enter Try.func55, Try.ntmps55
    go_wp2_with fail
    go_ret
    exact ⟨⟨_, rfl⟩, Below.refl _ _⟩
  · go_enter Try.func55, Try.ntmps55
    go_wp2_with fail
    go_ret
    exact ⟨⟨_, rfl⟩, Below.refl _ _⟩
theorem satAdd_any (x y : Int) (w : World) : Calls Try.prog 56 #[.int .i64 x, .int .i64 y] w fun e w' => RetI e ∧ Hid (Below w.heap.size w w') := by
  by_cases h : 1048576 < x
  · go_enter Try.func56, Try.ntmps56
    go_wp2_with fail
    go_ret
    exact ⟨⟨_, rfl⟩, Below.refl _ _⟩
  · by_cases h2 : 1048576 < y
    · go_enter Try.func56, Try.ntmps56
      go_wp2_with fail
      go_ret
      exact ⟨⟨_, rfl⟩, Below.refl _ _⟩
    · by_cases h3 : 1048576 < wrap64 (x + y)
      · go_enter Try.func56, Try.ntmps56
        go_wp2_with fail
        all_goals
          go_ret
          exact ⟨⟨_, rfl⟩, Below.refl _ _⟩
      · go_enter Try.func56, Try.ntmps56
        go_wp2_with fail
        all_goals
          go_ret
          exact ⟨⟨_, rfl⟩, Below.refl _ _⟩

set_option maxHeartbeats 1000000 in
theorem nested_any (a : Option Addr) (c : Nat) (xss : List (List Int)) (w : World) (hm : xss.length ≤ 1048576) (HL : Hid (LRow w a xss)) :
    Calls Try.prog 57 #[.slice a xss.length c] w fun e w' => RetI e ∧ Hid (Below w.heap.size w w') := by
  go_enter Try.func57, Try.ntmps57
  go_wp2_with fail
  refine (bytesOf_any _ _ w).mono ?_
  rintro e w1 ⟨⟨n0, rfl⟩, B1⟩
  by_cases h0 : 1048576 < n0
  · go_wp2_with fail
    go_ret
    exact ⟨⟨_, rfl⟩, B1⟩
  · go_wp2_with fail
    go_loopw [3, 4] (fun n i wr => ∃ (k : Nat) (x : Int), k ≤ xss.length ∧ i = .int .i64 k ∧ n = .int .i64 x ∧ Hid (Below w.heap.size w wr)) (fun _ i _ => xss.length - (intOf i).toNat)
    case atStart => exact ⟨0, n0, Nat.zero_le _, rfl, rfl, B1⟩
    case round =>
      obtain ⟨k, x, hk, rfl, rfl, HB⟩ := hrel
      by_cases hlt : k < xss.length
      · obtain ⟨b, off, ai, ci, xs, rfl, d1, _, _, _, _, _⟩ := HL.out.get HB.out hlt
        go_wp2_with fail
        refine (bytesOf_any _ _ wr).mono ?_
        rintro e w2 ⟨⟨n2, rfl⟩, B2⟩
        go_wp2_with fail
        refine (satAdd_any _ _ w2).mono ?_
        rintro e w3 ⟨⟨n3, rfl⟩, B3⟩
        have HB3 := hid (below_next (below_next HB.out B2.out) B3.out)
        by_cases h3 : 1048576 < n3
        · go_wp2_with fail
          go_ret
          exact ⟨⟨_, rfl⟩, HB3⟩
        · go_wp2_with fail
          go_roundw
          case rel => exact ⟨k + 1, n3, hlt, by go_num, rfl, HB3⟩
          case measure => simp [intOf]; omega
      · go_wp2_with fail
        go_ret
        exact ⟨⟨_, rfl⟩, HB⟩
set_option maxHeartbeats 1000000 in
theorem nested64_any (a : Option Addr) (c : Nat) (xss : List (List Int)) (w : World) (hm : xss.length ≤ 1048576) (HL : Hid (LRow w a xss)) :
    Calls Try.prog 61 #[.slice a xss.length c] w fun e w' => RetI e ∧ Hid (Below w.heap.size w w') := by
  go_enter Try.func61, Try.ntmps61
  go_wp2_with fail
  refine (bytesOf_any _ _ w).mono ?_
  rintro e w1 ⟨⟨n0, rfl⟩, B1⟩
  by_cases h0 : 1048576 < n0
  · go_wp2_with fail
    go_ret
    exact ⟨⟨_, rfl⟩, B1⟩
  · go_wp2_with fail
    go_loopw [3, 4] (fun n i wr => ∃ (k : Nat) (x : Int), k ≤ xss.length ∧ i = .int .i64 k ∧ n = .int .i64 x ∧ Hid (Below w.heap.size w wr)) (fun _ i _ => xss.length - (intOf i).toNat)
    case atStart => exact ⟨0, n0, Nat.zero_le _, rfl, rfl, B1⟩
    case round =>
      obtain ⟨k, x, hk, rfl, rfl, HB⟩ := hrel
      by_cases hlt : k < xss.length
      · obtain ⟨b, off, ai, ci, xs, rfl, d1, _, _, _, _, _⟩ := HL.out.get HB.out hlt
        go_wp2_with fail
        refine (bytesOf_any _ _ wr).mono ?_
        rintro e w2 ⟨⟨n2, rfl⟩, B2⟩
        go_wp2_with fail
        refine (satAdd_any _ _ w2).mono ?_
        rintro e w3 ⟨⟨n3, rfl⟩, B3⟩
        have HB3 := hid (below_next (below_next HB.out B2.out) B3.out)
        by_cases h3 : 1048576 < n3
        · go_wp2_with fail
          go_ret
          exact ⟨⟨_, rfl⟩, HB3⟩
        · go_wp2_with fail
          go_roundw
          case rel => exact ⟨k + 1, n3, hlt, by go_num, rfl, HB3⟩
          case measure => simp [intOf]; omega
      · go_wp2_with fail
        go_ret
        exact ⟨⟨_, rfl⟩, HB⟩
end Go.Proofs.Qxb6605294a
