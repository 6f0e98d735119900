import Derived.Test.Qxb6605294aBytes
set_option maxRecDepth 100000
namespace Go.Proofs.Qxb6605294a
open Go.ChangeShapes Go.WideShapes Go.ChangeAt Go.RowKit
set_option linter.unusedVariables false

set_option maxHeartbeats 4000000 in
theorem graphBytes_any (a0 : Option Addr) (c0 : Nat) (A0 : List (List Int)) (a1 : Option Addr) (c1 : Nat) (A1 : List (List Int)) (a2 : Option Addr) (c2 : Nat) (A2 : List (List Int)) (a3 : Option Addr) (c3 : Nat) (A3 : List (List Int)) (a4 : Option Addr) (c4 : Nat) (A4 : List (List Int)) (a5 : Option Addr) (c5 : Nat) (K5 : List (Int × Int)) (a6 : Option Addr) (c6 : Nat) (V6 : List Int) (a7 : Option Addr) (c7 : Nat) (A7 : List (List Int)) (a8 : Option Addr) (c8 : Nat) (B8 : List Bool) (a9 : Option Addr) (c9 : Nat) (P9 : List Int) (a10 : Option Addr) (c10 : Nat) (Q10 : List Bool) (w : World) (m0 : A0.length ≤ 1048576) (m1 : A1.length ≤ 1048576) (m2 : A2.length ≤ 1048576) (m3 : A3.length ≤ 1048576) (m4 : A4.length ≤ 1048576) (m5 : K5.length ≤ 1048576) (m6 : V6.length ≤ 1048576) (m7 : A7.length ≤ 1048576) (m8 : B8.length ≤ 1048576) (m9 : P9.length ≤ 1048576) (m10 : Q10.length ≤ 1048576) (H0 : Hid (LRow w a0 A0)) (H1 : Hid (LRow w a1 A1)) (H2 : Hid (LRow w a2 A2)) (H3 : Hid (LRow w a3 A3)) (H4 : Hid (LRow w a4 A4)) (H7 : Hid (LRow w a7 A7)) :
    Calls Try.prog 28 #[.slice a0 A0.length c0, .slice a1 A1.length c1, .slice a2 A2.length c2, .slice a3 A3.length c3, .slice a4 A4.length c4, .slice a5 K5.length c5, .slice a6 V6.length c6, .slice a7 A7.length c7, .slice a8 B8.length c8, .slice a9 P9.length c9, .slice a10 Q10.length c10] w fun e w' => RetI e ∧ Hid (Below w.heap.size w w') := by
  go_enter Try.func28, Try.ntmps28
  go_wp2_with fail
  refine (nested_any a0 c0 A0 w m0 (H0.out.below (hid (Below.refl w.heap.size w)).out)).mono ?_
  rintro e w0a ⟨⟨nw0a, rfl⟩, Bw0a⟩
  have Dw0a := hid (below_next (hid (Below.refl w.heap.size w)).out Bw0a.out)
  go_wp2_with fail
  refine (nested64_any a1 c1 A1 w0a m1 (H1.out.below Dw0a.out)).mono ?_
  rintro e w1a ⟨⟨nw1a, rfl⟩, Bw1a⟩
  have Dw1a := hid (below_next Dw0a.out Bw1a.out)
  go_wp2_with fail
  refine (satAdd_any _ _ w1a).mono ?_
  rintro e w1b ⟨⟨nw1b, rfl⟩, Bw1b⟩
  have Dw1b := hid (below_next Dw1a.out Bw1b.out)
  go_wp2_with fail
  refine (nested_any a2 c2 A2 w1b m2 (H2.out.below Dw1b.out)).mono ?_
  rintro e w2a ⟨⟨nw2a, rfl⟩, Bw2a⟩
  have Dw2a := hid (below_next Dw1b.out Bw2a.out)
  go_wp2_with fail
  refine (satAdd_any _ _ w2a).mono ?_
  rintro e w2b ⟨⟨nw2b, rfl⟩, Bw2b⟩
  have Dw2b := hid (below_next Dw2a.out Bw2b.out)
  go_wp2_with fail
  refine (nested_any a3 c3 A3 w2b m3 (H3.out.below Dw2b.out)).mono ?_
  rintro e w3a ⟨⟨nw3a, rfl⟩, Bw3a⟩
  have Dw3a := hid (below_next Dw2b.out Bw3a.out)
  go_wp2_with fail
  refine (satAdd_any _ _ w3a).mono ?_
  rintro e w3b ⟨⟨nw3b, rfl⟩, Bw3b⟩
  have Dw3b := hid (below_next Dw3a.out Bw3b.out)
  go_wp2_with fail
  refine (nested_any a4 c4 A4 w3b m4 (H4.out.below Dw3b.out)).mono ?_
  rintro e w4a ⟨⟨nw4a, rfl⟩, Bw4a⟩
  have Dw4a := hid (below_next Dw3b.out Bw4a.out)
  go_wp2_with fail
  refine (satAdd_any _ _ w4a).mono ?_
  rintro e w4b ⟨⟨nw4b, rfl⟩, Bw4b⟩
  have Dw4b := hid (below_next Dw4a.out Bw4b.out)
  go_wp2_with fail
  refine (bytesOf_any _ _ w4b).mono ?_
  rintro e w5a ⟨⟨nw5a, rfl⟩, Bw5a⟩
  have Dw5a := hid (below_next Dw4b.out Bw5a.out)
  go_wp2_with fail
  refine (satAdd_any _ _ w5a).mono ?_
  rintro e w5b ⟨⟨nw5b, rfl⟩, Bw5b⟩
  have Dw5b := hid (below_next Dw5a.out Bw5b.out)
  go_wp2_with fail
  refine (bytesOf_any _ _ w5b).mono ?_
  rintro e w6a ⟨⟨nw6a, rfl⟩, Bw6a⟩
  have Dw6a := hid (below_next Dw5b.out Bw6a.out)
  go_wp2_with fail
  refine (satAdd_any _ _ w6a).mono ?_
  rintro e w6b ⟨⟨nw6b, rfl⟩, Bw6b⟩
  have Dw6b := hid (below_next Dw6a.out Bw6b.out)
  go_wp2_with fail
  refine (nested_any a7 c7 A7 w6b m7 (H7.out.below Dw6b.out)).mono ?_
  rintro e w7a ⟨⟨nw7a, rfl⟩, Bw7a⟩
  have Dw7a := hid (below_next Dw6b.out Bw7a.out)
  go_wp2_with fail
  refine (satAdd_any _ _ w7a).mono ?_
  rintro e w7b ⟨⟨nw7b, rfl⟩, Bw7b⟩
  have Dw7b := hid (below_next Dw7a.out Bw7b.out)
  go_wp2_with fail
  refine (bytesOf_any _ _ w7b).mono ?_
  rintro e w8a ⟨⟨nw8a, rfl⟩, Bw8a⟩
  have Dw8a := hid (below_next Dw7b.out Bw8a.out)
  go_wp2_with fail
  refine (satAdd_any _ _ w8a).mono ?_
  rintro e w8b ⟨⟨nw8b, rfl⟩, Bw8b⟩
  have Dw8b := hid (below_next Dw8a.out Bw8b.out)
  go_wp2_with fail
  refine (bytesOf_any _ _ w8b).mono ?_
  rintro e w9a ⟨⟨nw9a, rfl⟩, Bw9a⟩
  have Dw9a := hid (below_next Dw8b.out Bw9a.out)
  go_wp2_with fail
  refine (satAdd_any _ _ w9a).mono ?_
  rintro e w9b ⟨⟨nw9b, rfl⟩, Bw9b⟩
  have Dw9b := hid (below_next Dw9a.out Bw9b.out)
  go_wp2_with fail
  refine (bytesOf_any _ _ w9b).mono ?_
  rintro e w10a ⟨⟨nw10a, rfl⟩, Bw10a⟩
  have Dw10a := hid (below_next Dw9b.out Bw10a.out)
  go_wp2_with fail
  refine (satAdd_any _ _ w10a).mono ?_
  rintro e w10b ⟨⟨nw10b, rfl⟩, Bw10b⟩
  have Dw10b := hid (below_next Dw10a.out Bw10b.out)
  go_wp2_with fail
  go_ret
  exact ⟨⟨_, rfl⟩, Dw10b⟩

def RetW (A0 A1 : List (List Int)) (K5 : List (Int × Int)) (V6 : List Int) (A7 : List (List Int)) (e : Ending) : Prop := ∃ b, e = .returned (.bool b) ∧ Hid (b = true → A1.length = A0.length ∧ V6.length = K5.length ∧ A7.length ≤ A0.length ∧ ∀ i, i < A0.length → (A1.getD i []).length = (A0.getD i []).length)
theorem retW_no {A0 A1 : List (List Int)} {K5 : List (Int × Int)} {V6 : List Int} {A7 : List (List Int)} : RetW A0 A1 K5 V6 A7 (.returned (.bool false)) := ⟨false, rfl, fun h => (by cases h)⟩
set_option maxHeartbeats 2000000 in
theorem wellFormed_any (a0 a1 a5 a6 a7 : Option Addr) (c0 c1 c5 c6 c7 : Nat) (A0 A1 : List (List Int)) (K5 : List (Int × Int)) (V6 : List Int) (A7 : List (List Int)) (w : World) (m0 : A0.length ≤ 1048576) (m1 : A1.length ≤ 1048576) (m5 : K5.length ≤ 1048576) (m6 : V6.length ≤ 1048576) (m7 : A7.length ≤ 1048576) (H0 : Hid (LRow w a0 A0)) (H1 : Hid (LRow w a1 A1)) :
    Calls Try.prog 29 #[.slice a0 A0.length c0, .slice a1 A1.length c1, .slice a5 K5.length c5, .slice a6 V6.length c6, .slice a7 A7.length c7] w fun e w' => RetW A0 A1 K5 V6 A7 e ∧ Hid (Below w.heap.size w w') := by
  by_cases e1 : A1.length = A0.length
  · have b1 : ((A1.length : Int) != (A0.length : Int)) = false := by simp [e1]
    have E1 := hid e1
    clear e1
    by_cases e2 : V6.length = K5.length
    · have b2 : ((V6.length : Int) != (K5.length : Int)) = false := by simp [e2]
      have E2 := hid e2
      clear e2
      by_cases e3 : A7.length ≤ A0.length
      · have b3 : decide ((A0.length : Int) < (A7.length : Int)) = false := by simp; omega
        go_enter Try.func29, Try.ntmps29
        go_wp2_with fail
        go_loopw [11] (fun i wr => ∃ k : Nat, k ≤ A0.length ∧ i = .int .i64 k ∧ Hid (∀ i, i < k → (A1.getD i []).length = (A0.getD i []).length) ∧ Hid (Below w.heap.size w wr)) (fun i _ => A0.length - (intOf i).toNat)
        case atStart => exact ⟨0, Nat.zero_le _, rfl, fun i hi => by omega, Below.refl _ _⟩
        case round =>
          obtain ⟨k, hk, rfl, HS, HB⟩ := hrel
          by_cases hlt : k < A0.length
          · have hlt1 : k < A1.length := by rw [E1.out]; exact hlt
            obtain ⟨b, off, ai, ci, xs, rfl, d1, _, _, _, X0, _⟩ := H0.out.get HB.out hlt
            obtain ⟨b', off', ai', ci', ys, rfl, d2, _, _, _, X1, _⟩ := H1.out.get HB.out hlt1
            by_cases hxy : ys.length = xs.length
            · have b4 : ((ys.length : Int) != (xs.length : Int)) = false := by simp [hxy]
              have HN : Hid (∀ i, i < k + 1 → (A1.getD i []).length = (A0.getD i []).length) := fun i hi => by
                by_cases e : i = k
                · subst e; rw [X0.out, X1.out]; exact hxy
                · exact HS.out i (by omega)
              clear hxy X0 X1
              go_wp2_with fail
              go_quiet (fail)
              go_wp2_with fail
              go_roundw
              case rel => exact ⟨k + 1, hlt, by go_num, HN, below_drewN HB.out _⟩
              case measure => simp [intOf]; omega
            · have b4 : ((ys.length : Int) != (xs.length : Int)) = true := by simp; omega
              clear hxy X0 X1
              go_wp2_with fail
              go_quiet (fail)
              go_wp2_with fail
              go_ret
              exact ⟨retW_no, below_drewN HB.out _⟩
          · have hke : k = A0.length := by omega
            have HF := hid (show ∀ i, i < A0.length → (A1.getD i []).length = (A0.getD i []).length by rw [← hke]; exact HS.out)
            clear hke
            go_wp2_with fail
            go_ret
            exact ⟨⟨true, rfl, fun _ => ⟨E1.out, E2.out, e3, HF.out⟩⟩, HB⟩
      · have b3 : decide ((A0.length : Int) < (A7.length : Int)) = true := by simp; omega
        go_enter Try.func29, Try.ntmps29
        go_wp2_with fail
        go_ret
        exact ⟨retW_no, Below.refl _ _⟩
    · have b2 : ((V6.length : Int) != (K5.length : Int)) = true := by simp; omega
      go_enter Try.func29, Try.ntmps29
      go_wp2_with fail
      go_ret
      exact ⟨retW_no, Below.refl _ _⟩
  · have b1 : ((A1.length : Int) != (A0.length : Int)) = true := by simp; omega
    go_enter Try.func29, Try.ntmps29
    go_wp2_with fail
    go_ret
    exact ⟨retW_no, Below.refl _ _⟩
end Go.Proofs.Qxb6605294a
