import Derived.Test.Qxb6605294aR43b
import Derived.Test.Qxb6605294aMain5
set_option maxRecDepth 100000
namespace Go.Proofs.Qxb6605294a
open Go.ChangeShapes Go.WideShapes Go.ChangeAt Go.RowKit
set_option linter.unusedVariables false

set_option maxHeartbeats 40000000 in
theorem main6 (a0 : Option Addr) (c0 : Nat) (A0 : List (List Int)) (a1 : Option Addr) (c1 : Nat) (A1 : List (List Int)) (a2 : Option Addr) (c2 : Nat) (A2 : List (List Int)) (a3 : Option Addr) (c3 : Nat) (A3 : List (List Int)) (a4 : Option Addr) (c4 : Nat) (A4 : List (List Int)) (a5 : Option Addr) (c5 : Nat) (K5 : List (Int × Int)) (a6 : Option Addr) (c6 : Nat) (V6 : List Int) (a7 : Option Addr) (c7 : Nat) (A7 : List (List Int)) (a8 : Option Addr) (c8 : Nat) (B8 : List Bool) (a9 : Option Addr) (c9 : Nat) (P9 : List Int) (a10 : Option Addr) (c10 : Nat) (Q10 : List Bool) (w : World) (m0 : A0.length ≤ 9223372036854775807) (m1 : A1.length ≤ 9223372036854775807) (m2 : A2.length ≤ 9223372036854775807) (m3 : A3.length ≤ 9223372036854775807) (m4 : A4.length ≤ 9223372036854775807) (m5 : K5.length ≤ 9223372036854775807) (m6 : V6.length ≤ 9223372036854775807) (m7 : A7.length ≤ 9223372036854775807) (m8 : B8.length ≤ 9223372036854775807) (m9 : P9.length ≤ 9223372036854775807) (m10 : Q10.length ≤ 9223372036854775807) (I0 : Hid (∀ i, (A0.getD i []).length ≤ 9223372036854775807)) (I1 : Hid (∀ i, (A1.getD i []).length ≤ 9223372036854775807)) (I2 : Hid (∀ i, (A2.getD i []).length ≤ 9223372036854775807)) (I3 : Hid (∀ i, (A3.getD i []).length ≤ 9223372036854775807)) (I4 : Hid (∀ i, (A4.getD i []).length ≤ 9223372036854775807)) (I7 : Hid (∀ i, (A7.getD i []).length ≤ 9223372036854775807)) (H0 : Hid (LRow w a0 A0)) (H1 : Hid (LRow w a1 A1)) (H2 : Hid (LRow w a2 A2)) (H3 : Hid (LRow w a3 A3)) (H4 : Hid (LRow w a4 A4)) (H5 : Hid (PairRow w a5 K5)) (H6 : Hid (IRow w a6 V6)) (H7 : Hid (LRow w a7 A7)) (H8 : Hid (Row Value.bool false w a8 B8)) (H9 : Hid (IRow w a9 P9)) (H10 : Hid (Row Value.bool false w a10 Q10)) (N0 : Hid (a0 = none → A0 = [] ∧ c0 = 0)) (N1 : Hid (a1 = none → A1 = [] ∧ c1 = 0)) (N2 : Hid (a2 = none → A2 = [] ∧ c2 = 0)) (N3 : Hid (a3 = none → A3 = [] ∧ c3 = 0)) (N4 : Hid (a4 = none → A4 = [] ∧ c4 = 0)) (N5 : Hid (a5 = none → K5 = [] ∧ c5 = 0)) (N6 : Hid (a6 = none → V6 = [] ∧ c6 = 0)) (N7 : Hid (a7 = none → A7 = [] ∧ c7 = 0)) (N8 : Hid (a8 = none → B8 = [] ∧ c8 = 0)) (N9 : Hid (a9 = none → P9 = [] ∧ c9 = 0)) (N10 : Hid (a10 = none → Q10 = [] ∧ c10 = 0)) (hwk : Hid (∀ k ∈ K5, wfK k)) (hwv : Hid (∀ v ∈ V6, (Lit.int .i64 v).wf = true)) :
    Calls Try.prog 6 #[.slice a0 A0.length c0, .slice a1 A1.length c1, .slice a2 A2.length c2, .slice a3 A3.length c3, .slice a4 A4.length c4, .slice a5 K5.length c5, .slice a6 V6.length c6, .slice a7 A7.length c7, .slice a8 B8.length c8, .slice a9 P9.length c9, .slice a10 Q10.length c10] w fun e w' => e = .returned (.bool true) ∧ Hid (Below w.heap.size w w') := by
  go_enter Try.func6, Try.ntmps6
  go_wp2_with fail
  refine (zz6_any a0 c0 A0 a1 c1 A1 a2 c2 A2 a3 c3 A3 a4 c4 A4 a5 c5 K5 a6 c6 V6 a7 c7 A7 a8 c8 B8 a9 c9 P9 a10 c10 Q10 w m0 m1 m2 m3 m4 m5 m6 m7 m8 m9 m10 H0 I0 H1 I1 H2 I2 H3 I3 H4 I4 H7 I7).mono ?_
  rintro e w1 ⟨⟨b, rfl, hz⟩, T1⟩
  cases b with
  | false =>
    go_wp2_with fail
    go_ret
    exact ⟨rfl, T1⟩
  | true =>
    have hN := hz.out rfl
    have l0 : A0.length ≤ 1048576 := by omega
    have l1 : A1.length ≤ 1048576 := by omega
    have l2 : A2.length ≤ 1048576 := by omega
    have l3 : A3.length ≤ 1048576 := by omega
    have l4 : A4.length ≤ 1048576 := by omega
    have l5 : K5.length ≤ 1048576 := by omega
    have l6 : V6.length ≤ 1048576 := by omega
    have l7 : A7.length ≤ 1048576 := by omega
    have l8 : B8.length ≤ 1048576 := by omega
    have l9 : P9.length ≤ 1048576 := by omega
    have l10 : Q10.length ≤ 1048576 := by omega
    have t0 : Hid (tot A0 ≤ 1048576) := by show _ ≤ _; omega
    have tn0 : Hid (A0.length + tot A0 ≤ 1048576) := by show _ ≤ _; omega
    have j0 : Hid (∀ i, (A0.getD i []).length ≤ 1048576) := fun i => Nat.le_trans (get_tot _ i) t0.out
    have s0 : Hid (∀ i, (A0.getD i []).length ≤ 100000000) := fun i => Nat.le_trans (j0.out i) (by omega)
    have t1 : Hid (tot A1 ≤ 1048576) := by show _ ≤ _; omega
    have j1 : Hid (∀ i, (A1.getD i []).length ≤ 1048576) := fun i => Nat.le_trans (get_tot _ i) t1.out
    have s1 : Hid (∀ i, (A1.getD i []).length ≤ 100000000) := fun i => Nat.le_trans (j1.out i) (by omega)
    have t2 : Hid (tot A2 ≤ 1048576) := by show _ ≤ _; omega
    have j2 : Hid (∀ i, (A2.getD i []).length ≤ 1048576) := fun i => Nat.le_trans (get_tot _ i) t2.out
    have s2 : Hid (∀ i, (A2.getD i []).length ≤ 100000000) := fun i => Nat.le_trans (j2.out i) (by omega)
    have t3 : Hid (tot A3 ≤ 1048576) := by show _ ≤ _; omega
    have j3 : Hid (∀ i, (A3.getD i []).length ≤ 1048576) := fun i => Nat.le_trans (get_tot _ i) t3.out
    have s3 : Hid (∀ i, (A3.getD i []).length ≤ 100000000) := fun i => Nat.le_trans (j3.out i) (by omega)
    have t4 : Hid (tot A4 ≤ 1048576) := by show _ ≤ _; omega
    have j4 : Hid (∀ i, (A4.getD i []).length ≤ 1048576) := fun i => Nat.le_trans (get_tot _ i) t4.out
    have s4 : Hid (∀ i, (A4.getD i []).length ≤ 100000000) := fun i => Nat.le_trans (j4.out i) (by omega)
    have t7 : Hid (tot A7 ≤ 1048576) := by show _ ≤ _; omega
    have j7 : Hid (∀ i, (A7.getD i []).length ≤ 1048576) := fun i => Nat.le_trans (get_tot _ i) t7.out
    have s7 : Hid (∀ i, (A7.getD i []).length ≤ 100000000) := fun i => Nat.le_trans (j7.out i) (by omega)
    clear hz hN m0 m1 m2 m3 m4 m5 m6 m7 m8 m9 m10 I0 I1 I2 I3 I4 I7
    go_wp2_with fail
    refine (graphBytes_any a0 c0 A0 a1 c1 A1 a2 c2 A2 a3 c3 A3 a4 c4 A4 a5 c5 K5 a6 c6 V6 a7 c7 A7 a8 c8 B8 a9 c9 P9 a10 c10 Q10 w1 l0 l1 l2 l3 l4 l5 l6 l7 l8 l9 l10 (hid (H0.out.below T1.out)) (hid (H1.out.below T1.out)) (hid (H2.out.below T1.out)) (hid (H3.out.below T1.out)) (hid (H4.out.below T1.out)) (hid (H7.out.below T1.out))).mono ?_
    rintro e w2 ⟨⟨nn, rfl⟩, T2⟩
    by_cases hgt : (1048576 : Int) < nn
    · go_wp2_with fail
      go_ret
      exact ⟨rfl, (below_next T1.out T2.out)⟩
    · go_wp2_with fail
      refine (wellFormed_any a0 a1 a5 a6 a7 c0 c1 c5 c6 c7 A0 A1 K5 V6 A7 w2 l0 l1 l5 l6 l7 (hid (H0.out.below (below_next T1.out T2.out))) (hid (H1.out.below (below_next T1.out T2.out)))).mono ?_
      rintro e w3 ⟨⟨b, rfl, hw⟩, T3⟩
      cases b with
      | false =>
        go_wp2_with fail
        go_ret
        exact ⟨rfl, (below_next (below_next T1.out T2.out) T3.out)⟩
      | true =>
        obtain ⟨e01, e56, l70, er⟩ := hw.out rfl
        have E01 := hid e01
        have E56 := hid e56
        have ER := hid er
        clear hw e01 e56 er hgt
        go_wp2_with fail
        refine (copyLists_any a0 c0 A0 w3 (by omega) s0 (hid (H0.out.below (below_next (below_next T1.out T2.out) T3.out))) N0).mono ?_
        rintro e w4 ⟨⟨b0, d0, rfl, F0, M0, _⟩, T4⟩
        go_wp2_with fail
        refine (copyL64_any a1 c1 A1 w4 (by omega) s1 (hid (H1.out.below (below_next (below_next (below_next T1.out T2.out) T3.out) T4.out))) N1).mono ?_
        rintro e w5 ⟨⟨b1, d1, rfl, F1, M1, _⟩, T5⟩
        go_wp2_with fail
        refine (copyLists_any a2 c2 A2 w5 (by omega) s2 (hid (H2.out.below (below_next (below_next (below_next (below_next T1.out T2.out) T3.out) T4.out) T5.out))) N2).mono ?_
        rintro e w6 ⟨⟨b2, d2, rfl, F2, M2, _⟩, T6⟩
        go_wp2_with fail
        refine (copyLists_any a3 c3 A3 w6 (by omega) s3 (hid (H3.out.below (below_next (below_next (below_next (below_next (below_next T1.out T2.out) T3.out) T4.out) T5.out) T6.out))) N3).mono ?_
        rintro e w7 ⟨⟨b3, d3, rfl, F3, M3, _⟩, T7⟩
        go_wp2_with fail
        refine (copyLists_any a4 c4 A4 w7 (by omega) s4 (hid (H4.out.below (below_next (below_next (below_next (below_next (below_next (below_next T1.out T2.out) T3.out) T4.out) T5.out) T6.out) T7.out))) N4).mono ?_
        rintro e w8 ⟨⟨b4, d4, rfl, F4, M4, _⟩, T8⟩
        go_wp2_with fail
        refine (copyKeys_any a5 c5 K5 w8 (by omega) (hid (H5.out.below (below_next (below_next (below_next (below_next (below_next (below_next (below_next T1.out T2.out) T3.out) T4.out) T5.out) T6.out) T7.out) T8.out))) N5).mono ?_
        rintro e w9 ⟨⟨b5, d5, rfl, F5, M5, _⟩, T9⟩
        go_wp2_with fail
        refine (copyInts_any a6 c6 V6 w9 (by omega) (hid (H6.out.below (below_next (below_next (below_next (below_next (below_next (below_next (below_next (below_next T1.out T2.out) T3.out) T4.out) T5.out) T6.out) T7.out) T8.out) T9.out))) N6).mono ?_
        rintro e w10 ⟨⟨b6, d6, rfl, _, F6, M6, _⟩, T10⟩
        go_wp2_with fail
        refine (copyLists_any a7 c7 A7 w10 (by omega) s7 (hid (H7.out.below (below_next (below_next (below_next (below_next (below_next (below_next (below_next (below_next (below_next T1.out T2.out) T3.out) T4.out) T5.out) T6.out) T7.out) T8.out) T9.out) T10.out))) N7).mono ?_
        rintro e w11 ⟨⟨b7, d7, rfl, F7, M7, _⟩, T11⟩
        go_wp2_with fail
        refine (copyBools_any a8 c8 B8 w11 (by omega) (hid (H8.out.below (below_next (below_next (below_next (below_next (below_next (below_next (below_next (below_next (below_next (below_next T1.out T2.out) T3.out) T4.out) T5.out) T6.out) T7.out) T8.out) T9.out) T10.out) T11.out))) N8).mono ?_
        rintro e w12 ⟨⟨b8, d8, rfl, _, F8, M8, _⟩, T12⟩
        go_wp2_with fail
        refine (copyI64_any a9 c9 P9 w12 (by omega) (hid (H9.out.below (below_next (below_next (below_next (below_next (below_next (below_next (below_next (below_next (below_next (below_next (below_next T1.out T2.out) T3.out) T4.out) T5.out) T6.out) T7.out) T8.out) T9.out) T10.out) T11.out) T12.out))) N9).mono ?_
        rintro e w13 ⟨⟨b9, d9, rfl, _, F9, M9, _⟩, T13⟩
        go_wp2_with fail
        refine (copyBools_any a10 c10 Q10 w13 (by omega) (hid (H10.out.below (below_next (below_next (below_next (below_next (below_next (below_next (below_next (below_next (below_next (below_next (below_next (below_next T1.out T2.out) T3.out) T4.out) T5.out) T6.out) T7.out) T8.out) T9.out) T10.out) T11.out) T12.out) T13.out))) N10).mono ?_
        rintro e w14 ⟨⟨b10, d10, rfl, _, F10, M10, _⟩, T14⟩
        go_wp2_with fail
        refine (copyLists_any b0 d0 A0 w14 (by omega) s0 (hid (F0.out.below (below_next (below_next (below_next (below_next (below_next (below_next (below_next (below_next (below_next T5.out T6.out) T7.out) T8.out) T9.out) T10.out) T11.out) T12.out) T13.out) T14.out))) M0).mono ?_
        rintro e w15 ⟨⟨p0, q0, rfl, X0, Y0, _⟩, T15⟩
        go_wp2_with fail
        refine (copyL64_any b1 d1 A1 w15 (by omega) s1 (hid (F1.out.below (below_next (below_next (below_next (below_next (below_next (below_next (below_next (below_next (below_next T6.out T7.out) T8.out) T9.out) T10.out) T11.out) T12.out) T13.out) T14.out) T15.out))) M1).mono ?_
        rintro e w16 ⟨⟨p1, q1, rfl, X1, Y1, _⟩, T16⟩
        go_wp2_with fail
        refine (copyLists_any b2 d2 A2 w16 (by omega) s2 (hid (F2.out.below (below_next (below_next (below_next (below_next (below_next (below_next (below_next (below_next (below_next T7.out T8.out) T9.out) T10.out) T11.out) T12.out) T13.out) T14.out) T15.out) T16.out))) M2).mono ?_
        rintro e w17 ⟨⟨p2, q2, rfl, X2, Y2, _⟩, T17⟩
        go_wp2_with fail
        refine (copyLists_any b3 d3 A3 w17 (by omega) s3 (hid (F3.out.below (below_next (below_next (below_next (below_next (below_next (below_next (below_next (below_next (below_next T8.out T9.out) T10.out) T11.out) T12.out) T13.out) T14.out) T15.out) T16.out) T17.out))) M3).mono ?_
        rintro e w18 ⟨⟨p3, q3, rfl, X3, Y3, _⟩, T18⟩
        go_wp2_with fail
        refine (copyLists_any b4 d4 A4 w18 (by omega) s4 (hid (F4.out.below (below_next (below_next (below_next (below_next (below_next (below_next (below_next (below_next (below_next T9.out T10.out) T11.out) T12.out) T13.out) T14.out) T15.out) T16.out) T17.out) T18.out))) M4).mono ?_
        rintro e w19 ⟨⟨p4, q4, rfl, X4, Y4, _⟩, T19⟩
        go_wp2_with fail
        refine (copyKeys_any b5 d5 K5 w19 (by omega) (hid (F5.out.below (below_next (below_next (below_next (below_next (below_next (below_next (below_next (below_next (below_next T10.out T11.out) T12.out) T13.out) T14.out) T15.out) T16.out) T17.out) T18.out) T19.out))) M5).mono ?_
        rintro e w20 ⟨⟨p5, q5, rfl, X5, Y5, _⟩, T20⟩
        go_wp2_with fail
        refine (copyInts_any b6 d6 V6 w20 (by omega) (hid (F6.out.below (below_next (below_next (below_next (below_next (below_next (below_next (below_next (below_next (below_next T11.out T12.out) T13.out) T14.out) T15.out) T16.out) T17.out) T18.out) T19.out) T20.out))) M6).mono ?_
        rintro e w21 ⟨⟨p6, q6, rfl, _, X6, Y6, _⟩, T21⟩
        go_wp2_with fail
        refine (copyLists_any b7 d7 A7 w21 (by omega) s7 (hid (F7.out.below (below_next (below_next (below_next (below_next (below_next (below_next (below_next (below_next (below_next T12.out T13.out) T14.out) T15.out) T16.out) T17.out) T18.out) T19.out) T20.out) T21.out))) M7).mono ?_
        rintro e w22 ⟨⟨p7, q7, rfl, X7, Y7, _⟩, T22⟩
        go_wp2_with fail
        refine (copyBools_any b8 d8 B8 w22 (by omega) (hid (F8.out.below (below_next (below_next (below_next (below_next (below_next (below_next (below_next (below_next (below_next T13.out T14.out) T15.out) T16.out) T17.out) T18.out) T19.out) T20.out) T21.out) T22.out))) M8).mono ?_
        rintro e w23 ⟨⟨p8, q8, rfl, _, X8, Y8, _⟩, T23⟩
        go_wp2_with fail
        refine (copyI64_any b9 d9 P9 w23 (by omega) (hid (F9.out.below (below_next (below_next (below_next (below_next (below_next (below_next (below_next (below_next (below_next T14.out T15.out) T16.out) T17.out) T18.out) T19.out) T20.out) T21.out) T22.out) T23.out))) M9).mono ?_
        rintro e w24 ⟨⟨p9, q9, rfl, _, X9, Y9, _⟩, T24⟩
        go_wp2_with fail
        refine (copyBools_any b10 d10 Q10 w24 (by omega) (hid (F10.out.below (below_next (below_next (below_next (below_next (below_next (below_next (below_next (below_next (below_next T15.out T16.out) T17.out) T18.out) T19.out) T20.out) T21.out) T22.out) T23.out) T24.out))) M10).mono ?_
        rintro e w25 ⟨⟨p10, q10, rfl, _, X10, Y10, _⟩, T25⟩
        go_wp2_with fail
        refine (newGraph_any p0 p1 p5 p6 p9 q0 q1 q5 q6 q9 A0 A1 K5 V6 P9 p2 p3 p4 p7 p8 p10 A2.length q2 A3.length q3 A4.length q4 A7.length q7 B8.length q8 Q10.length q10 w25 l0 l5 l9 j0 E01 E56 ER hwk hwv (hid (X0.out.below (below_next (below_next (below_next (below_next (below_next (below_next (below_next (below_next (below_next T16.out T17.out) T18.out) T19.out) T20.out) T21.out) T22.out) T23.out) T24.out) T25.out))) (hid (X1.out.below (below_next (below_next (below_next (below_next (below_next (below_next (below_next (below_next T17.out T18.out) T19.out) T20.out) T21.out) T22.out) T23.out) T24.out) T25.out))) (hid (X5.out.below (below_next (below_next (below_next (below_next T21.out T22.out) T23.out) T24.out) T25.out))) (hid (X6.out.below (below_next (below_next (below_next T22.out T23.out) T24.out) T25.out))) (hid (X9.out.below T25.out))).mono ?_
        rintro e w26 ⟨⟨gb, hh, fb, pp, pc, rfl, RG, RH, RF, RPg⟩, T26⟩
        have g0 := RG.out.cell (i := 0) (by omega)
        have g1 := RG.out.cell (i := 1) (by omega)
        have g2 := RG.out.cell (i := 2) (by omega)
        have g3 := RG.out.cell (i := 3) (by omega)
        have g4 := RG.out.cell (i := 4) (by omega)
        have g5 := RG.out.cell (i := 5) (by omega)
        have g6 := RG.out.cell (i := 6) (by omega)
        have G0 := (hid (F0.out.below (below_next (below_next (below_next (below_next (below_next (below_next (below_next (below_next (below_next (below_next (below_next (below_next (below_next (below_next (below_next (below_next (below_next (below_next (below_next (below_next (below_next T5.out T6.out) T7.out) T8.out) T9.out) T10.out) T11.out) T12.out) T13.out) T14.out) T15.out) T16.out) T17.out) T18.out) T19.out) T20.out) T21.out) T22.out) T23.out) T24.out) T25.out) T26.out)))
        have G1 := (hid (F1.out.below (below_next (below_next (below_next (below_next (below_next (below_next (below_next (below_next (below_next (below_next (below_next (below_next (below_next (below_next (below_next (below_next (below_next (below_next (below_next (below_next T6.out T7.out) T8.out) T9.out) T10.out) T11.out) T12.out) T13.out) T14.out) T15.out) T16.out) T17.out) T18.out) T19.out) T20.out) T21.out) T22.out) T23.out) T24.out) T25.out) T26.out)))
        have G2 := (hid (F2.out.below (below_next (below_next (below_next (below_next (below_next (below_next (below_next (below_next (below_next (below_next (below_next (below_next (below_next (below_next (below_next (below_next (below_next (below_next (below_next T7.out T8.out) T9.out) T10.out) T11.out) T12.out) T13.out) T14.out) T15.out) T16.out) T17.out) T18.out) T19.out) T20.out) T21.out) T22.out) T23.out) T24.out) T25.out) T26.out)))
        have G3 := (hid (F3.out.below (below_next (below_next (below_next (below_next (below_next (below_next (below_next (below_next (below_next (below_next (below_next (below_next (below_next (below_next (below_next (below_next (below_next (below_next T8.out T9.out) T10.out) T11.out) T12.out) T13.out) T14.out) T15.out) T16.out) T17.out) T18.out) T19.out) T20.out) T21.out) T22.out) T23.out) T24.out) T25.out) T26.out)))
        have G4 := (hid (F4.out.below (below_next (below_next (below_next (below_next (below_next (below_next (below_next (below_next (below_next (below_next (below_next (below_next (below_next (below_next (below_next (below_next (below_next T9.out T10.out) T11.out) T12.out) T13.out) T14.out) T15.out) T16.out) T17.out) T18.out) T19.out) T20.out) T21.out) T22.out) T23.out) T24.out) T25.out) T26.out)))
        have G5 := (hid (F5.out.below (below_next (below_next (below_next (below_next (below_next (below_next (below_next (below_next (below_next (below_next (below_next (below_next (below_next (below_next (below_next (below_next T10.out T11.out) T12.out) T13.out) T14.out) T15.out) T16.out) T17.out) T18.out) T19.out) T20.out) T21.out) T22.out) T23.out) T24.out) T25.out) T26.out)))
        have G6 := (hid (F6.out.below (below_next (below_next (below_next (below_next (below_next (below_next (below_next (below_next (below_next (below_next (below_next (below_next (below_next (below_next (below_next T11.out T12.out) T13.out) T14.out) T15.out) T16.out) T17.out) T18.out) T19.out) T20.out) T21.out) T22.out) T23.out) T24.out) T25.out) T26.out)))
        have G7 := (hid (F7.out.below (below_next (below_next (below_next (below_next (below_next (below_next (below_next (below_next (below_next (below_next (below_next (below_next (below_next (below_next T12.out T13.out) T14.out) T15.out) T16.out) T17.out) T18.out) T19.out) T20.out) T21.out) T22.out) T23.out) T24.out) T25.out) T26.out)))
        have G8 := (hid (F8.out.below (below_next (below_next (below_next (below_next (below_next (below_next (below_next (below_next (below_next (below_next (below_next (below_next (below_next T13.out T14.out) T15.out) T16.out) T17.out) T18.out) T19.out) T20.out) T21.out) T22.out) T23.out) T24.out) T25.out) T26.out)))
        have G9 := (hid (F9.out.below (below_next (below_next (below_next (below_next (below_next (below_next (below_next (below_next (below_next (below_next (below_next (below_next T14.out T15.out) T16.out) T17.out) T18.out) T19.out) T20.out) T21.out) T22.out) T23.out) T24.out) T25.out) T26.out)))
        have G10 := (hid (F10.out.below (below_next (below_next (below_next (below_next (below_next (below_next (below_next (below_next (below_next (below_next (below_next T15.out T16.out) T17.out) T18.out) T19.out) T20.out) T21.out) T22.out) T23.out) T24.out) T25.out) T26.out)))
        have GQ := (hid (X10.out.below T26.out))
        have GG : Hid (GAt w26 gb (zipL A0 A1) A2 A3 A4 A7 (factsD K5 V6 (.map [])) B8) := ⟨hh, A0.length, p2, q2, p3, q3, p4, q4, fb, K5.length, p7, q7, p8, q8, by rw [zipL_len E01.out]; exact g0, g1, g2, g3, g4, g5, g6, RH.out, ((hid (X2.out.below (below_next (below_next (below_next (below_next (below_next (below_next (below_next (below_next T18.out T19.out) T20.out) T21.out) T22.out) T23.out) T24.out) T25.out) T26.out)))).out, ((hid (X3.out.below (below_next (below_next (below_next (below_next (below_next (below_next (below_next T19.out T20.out) T21.out) T22.out) T23.out) T24.out) T25.out) T26.out)))).out, ((hid (X4.out.below (below_next (below_next (below_next (below_next (below_next (below_next T20.out T21.out) T22.out) T23.out) T24.out) T25.out) T26.out)))).out, RF.out, ((hid (X7.out.below (below_next (below_next (below_next T23.out T24.out) T25.out) T26.out)))).out, ((hid (X8.out.below (below_next (below_next T24.out T25.out) T26.out)))).out⟩
        go_wp2_with fail
        refine (zzClone_any gb A0.length fb K5.length (factsD K5 V6 (.map [])) hh p2 p3 p4 p7 p8 A0.length q2 q3 q4 q7 q8 (zipL A0 A1) A2 A3 A4 A7 B8 w26 l0 l8 l5 l2 l3 l4 l70 (by rw [zipL_flat E01.out ER.out]; exact t0.out) (by rw [tot_flat]; exact t2.out) (by rw [tot_flat]; exact t3.out) (by rw [tot_flat]; exact t4.out) j7 (hid (zipL_len E01.out).symm) g0 g1 g2 g3 g4 g5 g6 RH (hid (X2.out.below (below_next (below_next (below_next (below_next (below_next (below_next (below_next (below_next T18.out T19.out) T20.out) T21.out) T22.out) T23.out) T24.out) T25.out) T26.out))) (hid (X3.out.below (below_next (below_next (below_next (below_next (below_next (below_next (below_next T19.out T20.out) T21.out) T22.out) T23.out) T24.out) T25.out) T26.out))) (hid (X4.out.below (below_next (below_next (below_next (below_next (below_next (below_next T20.out T21.out) T22.out) T23.out) T24.out) T25.out) T26.out))) RF (hid (X7.out.below (below_next (below_next (below_next T23.out T24.out) T25.out) T26.out))) (hid (X8.out.below (below_next (below_next T24.out T25.out) T26.out))) Y8).mono ?_
        rintro e w27 ⟨⟨c, rfl, hC⟩, T27⟩
        have DW : Hid (Below w.heap.size w w26) := (below_next (below_next (below_next (below_next (below_next (below_next (below_next (below_next (below_next (below_next (below_next (below_next (below_next (below_next (below_next (below_next (below_next (below_next (below_next (below_next (below_next (below_next (below_next (below_next (below_next T1.out T2.out) T3.out) T4.out) T5.out) T6.out) T7.out) T8.out) T9.out) T10.out) T11.out) T12.out) T13.out) T14.out) T15.out) T16.out) T17.out) T18.out) T19.out) T20.out) T21.out) T22.out) T23.out) T24.out) T25.out) T26.out)
        obtain ⟨h, F, p, P, q, rb, v6, u7, fh, fp, k5, R1, R2, R3, f1, f2, f3, v1, v2, v3, S0, S1, S2, S3, S4, hHC⟩ := hC.out
        rw [zipL_len E01.out] at hHC
        have HC := hid hHC
        have HSZ := hid (fm_size RF.out)
        clear hC hHC RH RF g0 g1 g2 g3 g4 g5 g6 F0 M0 X0 Y0 H0 N0 F1 M1 X1 Y1 H1 N1 F2 M2 X2 Y2 H2 N2 F3 M3 X3 Y3 H3 N3 F4 M4 X4 Y4 H4 N4 F5 M5 X5 Y5 H5 N5 F6 M6 X6 Y6 H6 N6 F7 M7 X7 Y7 H7 N7 F8 M8 X8 Y8 H8 N8 F9 M9 X9 Y9 H9 N9 F10 M10 X10 Y10 H10 N10
        clear T1 T2 T3 T4 T5 T6 T7 T8 T9 T10 T11 T12 T13 T14 T15 T16 T17 T18 T19 T20 T21 T22 T23 T24 T25 T26
        as_aux_lemma =>
          have ZL := hid (zipL_len E01.out)
          obtain ⟨av6, cv6, kb6, sz6, e6, lv6, nv6, hpa⟩ := pa_open HC.out.bun.r6
          subst e6
          have HPA := hid hpa
          clear hpa nv6
          have k0 := HC.out.rc.cell (i := 0) (by omega)
          have k1 := HC.out.rc.cell (i := 1) (by omega)
          have k2 := HC.out.rc.cell (i := 2) (by omega)
          have k3 := HC.out.rc.cell (i := 3) (by omega)
          have k6 := HC.out.rc.cell (i := 6) (by omega)
          have k5c := HC.out.rc.cell (i := 5) (by omega)
          have QR0 := hid (HC.out.hrow ZL.out.symm)
          have QR1 := hid HC.out.l1.lrow
          have QR2 := hid HC.out.l2.lrow
          have QR3 := hid HC.out.l3.lrow
          have QR5 := hid (HC.out.pool.lrow l70 HC.out.bun.rp)
          have hHo := hid (holdsC c (some ⟨h, 0, none⟩) A0.length (zipL A0 A1) w27 (by rw [ZL.out]; exact l0) (hid (fun i => Nat.le_trans (zipL_get_le E01.out i) t0.out)) (by rw [ZL.out]; exact k0) QR0)
          rw [← zipL_fst E01.out ER.out, ← zipL_snd E01.out ER.out] at hHo
          clear k0
          go_wp2_with fail
          refine hHo.out.mono ?_
          rintro e w28 ⟨⟨ta, tc, sa, sc, rfl, TO, _⟩, T28⟩
          clear hHo
          have D28 := hid (below_next T27.out T28.out)
          go_wp2_with fail
          go_loopw [28] (fun i wr => ∃ k : Nat, k ≤ A0.length ∧ i = .int .i64 k ∧ Hid (Below w28.heap.size w28 wr)) (fun i _ => A0.length - (intOf i).toNat)
          case atStart => exact ⟨0, Nat.zero_le _, rfl, Below.refl _ _⟩
          case round =>
            obtain ⟨k, hk, rfl, HB⟩ := hrel
            by_cases hlt : k < A0.length
            · obtain ⟨b, off, ai, ci, xs, rfl, d1, _, _, _, HX, _⟩ := TO.out.get HB.out hlt
              obtain ⟨b2, off2, ai2, ci2, ys, rfl, d2, _, _, _, HX2, _⟩ := G0.out.get (below_next D28.out HB.out) hlt
              obtain rfl : xs = ys := HX.out.symm.trans HX2.out
              clear HX HX2
              go_wp2_with fail
              go_quiet (fail)
              go_wp2_with fail
              exact ⟨⟨k + 1, hlt, by simp, below_drewN HB.out _⟩, by simp [intOf]; omega⟩
            · obtain ⟨w29, hw29⟩ : ∃ x, x = wr := ⟨_, rfl⟩
              subst hw29
              have C29 := hid (below_next T28.out HB.out)
              have y1 := (C29.out.cell (p := ⟨c, 1, none⟩) (cell_lt' k1)).trans k1
              have y2 := (C29.out.cell (p := ⟨c, 2, none⟩) (cell_lt' k2)).trans k2
              have y3 := (C29.out.cell (p := ⟨c, 3, none⟩) (cell_lt' k3)).trans k3
              have y6 := (C29.out.cell (p := ⟨c, 6, none⟩) (cell_lt' k6)).trans k6
              have y5 := (C29.out.cell (p := ⟨c, 5, none⟩) (cell_lt' k5c)).trans k5c
              clear k1 k2 k3 k5c k6 TO
              go_wp2_with fail
              refine (lists_any c (some ⟨R1, 0, none⟩) (some ⟨R2, 0, none⟩) (some ⟨R3, 0, none⟩) (some ⟨p, 0, none⟩) av6 A2.length A2.length A3.length A3.length A4.length A4.length A0.length A0.length B8.length cv6 w29 y1 y2 y3 y5 y6).mono ?_
              rintro e w30 ⟨rfl, T30⟩
              have C30 := hid (below_next C29.out T30.out)
              clear y1 y2 y3 y5 y6
              have D30 := hid (below_next T27.out C30.out)
              go_wp2_with fail
              refine (sameShape_yes (some ⟨R1, 0, none⟩) b2 A2.length d2 A2 A2 w30 l2 l2 j2 (hid (fun _ _ => rfl)) (hid (QR1.out.below C30.out)) (hid (G2.out.below D30.out))).mono ?_
              rintro e w31 ⟨rfl, T31⟩
              have C31 := hid (below_next C30.out T31.out)
              have D31 := hid (below_next D30.out T31.out)
              go_wp2_with fail
              refine (sameShape_yes (some ⟨R2, 0, none⟩) b3 A3.length d3 A3 A3 w31 l3 l3 j3 (hid (fun _ _ => rfl)) (hid (QR2.out.below C31.out)) (hid (G3.out.below D31.out))).mono ?_
              rintro e w32 ⟨rfl, T32⟩
              have C32 := hid (below_next C31.out T32.out)
              have D32 := hid (below_next D31.out T32.out)
              go_wp2_with fail
              refine (sameShape_yes (some ⟨R3, 0, none⟩) b4 A4.length d4 A4 A4 w32 l4 l4 j4 (hid (fun _ _ => rfl)) (hid (QR3.out.below C32.out)) (hid (G4.out.below D32.out))).mono ?_
              rintro e w33 ⟨rfl, T33⟩
              have C33 := hid (below_next C32.out T33.out)
              have D33 := hid (below_next D32.out T33.out)
              have hSS := hid (sameShape_yes (some ⟨p, 0, none⟩) b7 A0.length d7 (pad A0.length A7) A7 w33 (by rw [pad_len]; exact l0) l7 (hid (fun i => by rw [pad_get l70]; exact j7.out i)) (hid (fun i _ => by rw [pad_get l70])) (hid (QR5.out.below C33.out)) (hid (G7.out.below D33.out)))
              rw [pad_len] at hSS
              go_wp2_with fail
              refine hSS.out.mono ?_
              rintro e w34 ⟨rfl, T34⟩
              have C34 := hid (below_next C33.out T34.out)
              have D34 := hid (below_next D33.out T34.out)
              have HC34 := hid (HC.out.below C34.out)
              have x8 := HC34.out.rc.cell (i := 8) (by omega)
              clear hSS QR0 QR1 QR2 QR3 QR5 C29 C30 C31 C32 C33 D30 D31 D32 D33 D28
              go_wp2_with fail
              refine (queued_any c (some ⟨q, 0, none⟩) A0.length A0.length w34 x8).mono ?_
              rintro e w35 ⟨rfl, T35⟩
              have HC35 := hid (HC34.out.below T35.out)
              have x7 := HC35.out.rc.cell (i := 7) (by omega)
              clear x8
              go_wp2_with fail
              refine (pool_zero c P A0.length w35 (by omega) x7 (hid HC35.out.bun.rP)).mono ?_
              rintro e w36 ⟨⟨ap, cp, rfl, _⟩, T36⟩
              have HA := hid (HC35.out.below T36.out)
              have DB := hid (below_next (below_next D34.out T35.out) T36.out)
              have C27 := hid (below_next (below_next C34.out T35.out) T36.out)
              clear x7 HC34 HC35 D34 C34 T28 T30 T31 T32 T33 T34 T35 T36
              obtain ⟨cls, CL⟩ : ∃ cls, Hid (Cls cls w27.heap.size c h F p P q (.slice av6 B8.length cv6) u7 v1 v2 v3 R1 R2 R3 fp A0.length) := ⟨_, HC.out.cls⟩
              have HPA2 : Hid (0 < B8.length → av6 = some ⟨kb6, 0, none⟩ ∧ (Value.slice av6 B8.length cv6).ownBlock = some kb6 ∧ w26.heap.size ≤ kb6 ∧ PaAt w36 kb6 sz6 B8 0) := fun h0 => ⟨(HPA.out h0).1, (HPA.out h0).2.1, (HPA.out h0).2.2.1, (HPA.out h0).2.2.2.tm ((TM.refl cls [] w27).below C27.out) (by simp)⟩
              have hBc := HA.out.bc.1
              have hS0 : w26.heap.size ≤ S0 := by have := HA.out.bc; omega
              have hz27 := C27.out.size
              clear HPA HC
              as_aux_lemma =>
                obtain ⟨ub, szu, hHM, hub⟩ := HA.out.hmat ZL.out.symm
                have HM := hid hHM
                have HUB := hid hub
                have CU : Hid (∀ i, i < A0.length → 0 < lenf (zipL A0 A1) i → cls ub = 1) := fun i hi h0 => CL.out.ub ub (HUB.out i hi h0)
                have BU : Hid (∀ i, i < A0.length → 0 < lenf (zipL A0 A1) i → w26.heap.size ≤ ub) := fun i hi h0 => Nat.le_trans hS0 (own_ge HA.out.links (HUB.out i hi h0))
                clear hHM hub
                go_wp2_with fail
                go_loopw [35] (fun i wr => ∃ k : Nat, k ≤ A0.length ∧ i = .int .i64 k ∧ Hid (HMat wr h A0.length fh (lenf (zipL A0 A1)) (offs (zipL A0 A1)) ub szu (fp2 (valp (zipL A0 A1)) k 0)) ∧ Hid (TM cls [1] w36 wr) ∧ Hid (Below w26.heap.size w26 wr)) (fun i _ => A0.length - (intOf i).toNat)
                case atStart => exact ⟨0, Nat.zero_le _, rfl, hid (HM.out.congr fun i j _ _ => by unfold fp2; rw [if_neg (by omega)]), TM.refl _ _ _, DB⟩
                case round =>
                  obtain ⟨k, hk, rfl, HR, HT, HB⟩ := hrel
                  clear HM DB
                  by_cases hlt : k < A0.length
                  · obtain ⟨b, off, ai, ci, xs, rfl, dd1, hbl, RI, _, HX, _⟩ := G0.out.get (Below.refl _ _) hlt
                    obtain ⟨b2, off2, ai2, ci2, ys, rfl, dd2, hbl2, RI2, _, HX2, _⟩ := G1.out.get (Below.refl _ _) (by rw [E01.out]; exact hlt)
                    have hlt1 : k < A1.length := by rw [E01.out]; exact hlt
                    have HL := hid (show ys.length = xs.length by rw [← HX.out, ← HX2.out]; exact ER.out k hlt)
                    have HLk := hid (zip_len E01.out HX.out HX2.out HL.out)
                    have hxl : xs.length ≤ 1048576 := by rw [← HX.out]; exact j0.out k
                    have e1 := (HB.out.cell (p := ⟨b, off + k, none⟩) hbl).trans dd1
                    go_wp2_with fail
                    go_loopw [36] (fun i wr => ∃ jj : Nat, jj ≤ xs.length ∧ i = .int .i64 jj ∧ Hid (HMat wr h A0.length fh (lenf (zipL A0 A1)) (offs (zipL A0 A1)) ub szu (fp2 (valp (zipL A0 A1)) k jj)) ∧ Hid (TM cls [1] w36 wr) ∧ Hid (Below w26.heap.size w26 wr)) (fun i _ => xs.length - (intOf i).toNat)
                    case atStart => exact ⟨0, Nat.zero_le _, rfl, HR, HT, HB⟩
                    case round =>
                      clear HR HT HB e1
                      obtain ⟨jj, hj, rfl, HR, HT, HB⟩ := hrel
                      have e1 := (HB.out.cell (p := ⟨b, off + k, none⟩) hbl).trans dd1
                      have e2 := (HB.out.cell (p := ⟨b2, off2 + k, none⟩) hbl2).trans dd2
                      by_cases hjl : jj < xs.length
                      · have h0 : 0 < lenf (zipL A0 A1) k := by rw [HLk.out]; omega
                        have hjL : jj < lenf (zipL A0 A1) k := by rw [HLk.out]; exact hjl
                        obtain ⟨b3, off3, rfl, q1⟩ := RI.out.at HB.out hjl
                        obtain ⟨b4, off4, rfl, q2⟩ := RI2.out.at HB.out (i := jj) (by rw [HL.out]; exact hjl)
                        have HV := hid (zip_at E01.out HX.out HX2.out HL.out hjl)
                        obtain ⟨x, hx⟩ : ∃ x, x = xs.getD jj 0 := ⟨_, rfl⟩
                        obtain ⟨y, hy⟩ : ∃ y, y = ys.getD jj 0 := ⟨_, rfl⟩
                        rw [← hx, ← hy] at HV
                        rw [← hx] at q1
                        rw [← hy] at q2
                        clear hx hy
                        have hBu := BU.out k hlt h0
                        have hCu := CU.out k hlt h0
                        have l3 := cell_lt' q1
                        obtain ⟨q3, q4⟩ := HR.out.cel k jj hlt hjL
                        obtain ⟨x0, hx0⟩ : ∃ x, x = (fp2 (valp (zipL A0 A1)) k jj k jj).1 := ⟨_, rfl⟩
                        obtain ⟨y0, hy0⟩ : ∃ x, x = (fp2 (valp (zipL A0 A1)) k jj k jj).2 := ⟨_, rfl⟩
                        rw [← hx0] at q3
                        rw [← hy0] at q4
                        clear hx0 hy0
                        obtain ⟨gu, hgu⟩ := HR.out.thaw k hlt h0
                        have z3 := hgu.frozen (offs (zipL A0 A1) k * 2 + jj * 2)
                        have z4 := hgu.frozen (offs (zipL A0 A1) k * 2 + jj * 2 + 1)
                        obtain ⟨asl, es, has, _⟩ := HR.out.sl k hlt
                        obtain rfl := has h0
                        have q5 := HR.out.row.cell (i := k) hlt
                        rw [es, HLk.out] at q5
                        have RCk := hid (HT.out.row HA.out.rc CL.out.c (by decide))
                        have q6 := RCk.out.cell (i := 0) (by omega)
                        have HRd : Hid (HMat wr.drew h A0.length fh (lenf (zipL A0 A1)) (offs (zipL A0 A1)) ub szu (fp2 (valp (zipL A0 A1)) k jj)) := HR.out.tch (X := fun _ => False) (Tch.refl _ _).drew (fun h => h) (fun _ _ _ h => h)
                        have HR2 : Hid (HMat ((wr.drew.setCell ⟨ub, offs (zipL A0 A1) k * 2 + jj * 2, none⟩ (.int .i64 (flp x))).setCell ⟨ub, offs (zipL A0 A1) k * 2 + jj * 2 + 1, none⟩ (.int .i64 (flp y))) h A0.length fh (lenf (zipL A0 A1)) (offs (zipL A0 A1)) ub szu (fp2 (valp (zipL A0 A1)) k (jj + 1))) := by
                          have := HRd.out.set hlt hjL (flp x) (flp y)
                          rw [show (flp x, flp y) = flp2 (valp (zipL A0 A1) k jj) by rw [HV.out]; rfl, fp2_step] at this
                          exact this
                        have HT2 : Hid (TM cls [1] w36 ((wr.drew.setCell ⟨ub, offs (zipL A0 A1) k * 2 + jj * 2, none⟩ (.int .i64 (flp x))).setCell ⟨ub, offs (zipL A0 A1) k * 2 + jj * 2 + 1, none⟩ (.int .i64 (flp y)))) := (HT.out.drew.set hCu (by decide)).set hCu (by decide)
                        have HB2 : Hid (Below w26.heap.size w26 ((wr.drew.setCell ⟨ub, offs (zipL A0 A1) k * 2 + jj * 2, none⟩ (.int .i64 (flp x))).setCell ⟨ub, offs (zipL A0 A1) k * 2 + jj * 2 + 1, none⟩ (.int .i64 (flp y)))) := (HB.out.drew.setCell hBu _).setCell hBu _
                        obtain ⟨ov, hov⟩ : ∃ x, x = offs (zipL A0 A1) k * 2 := ⟨_, rfl⟩
                        rw [← hov] at q3 q4 z3 z4 q5 HR2 HT2 HB2
                        have n1 : b ≠ ub := by omega
                        have n2 : b2 ≠ ub := by omega
                        have n3 : b3 ≠ ub := by have := HB.out.size; have h3 := RI.out (by omega); obtain ⟨b3', o3', e3', c3'⟩ := h3; cases e3'; have := cell_lt' (c3' jj hjl); simp only at this; omega
                        have n4 : b4 ≠ ub := by have h3 := RI2.out (by rw [HL.out]; omega); obtain ⟨b3', o3', e3', c3'⟩ := h3; cases e3'; have := cell_lt' (c3' jj (by rw [HL.out]; exact hjl)); simp only at this; omega
                        rw [HL.out] at e2
                        clear HR HT HB hgu es has hov HV l3
                        simp only [flp_eq] at HR2 HT2 HB2
                        have HSL := hid (setLink_any c h A0.length k jj ub ov xs.length (flp x) (flp y) x0 y0 wr.drew l0 hxl hlt hjl q6 q5 q3 q4 z3 z4)
                        simp only [flp_eq] at HSL
                        clear q3 q4 q5 q6 z3 z4 HRd n1 n2 n3 n4 hBu hCu
                        as_aux_lemma =>
                          go_wp2_with fail
                          refine reg43 hlt hlt1 hjl l0 l1 hxl e1 e2 q1 q2 HSL.out ?_
                          intro vv
                          obtain ⟨w9, hw9⟩ : ∃ W9 : World, W9 = ((wr.drew.setCell ⟨ub, ov + jj * 2, none⟩ (.int .i64 (bits BinOp.xor IntKind.i64 (-1) x))).setCell ⟨ub, ov + jj * 2 + 1, none⟩ (.int .i64 (bits BinOp.xor IntKind.i64 (-1) y))) := ⟨_, rfl⟩
                          rw [← hw9] at HR2 HT2 HB2 ⊢
                          clear hw9 HSL e1 e2 q1 q2 RCk
                          as_aux_lemma =>
                            go_wp2_with fail
                            exact ⟨⟨jj + 1, hjl, by simp, HR2, HT2, HB2⟩, by simp [intOf]; omega⟩
                      · have hje := hid (show jj = lenf (zipL A0 A1) k by rw [HLk.out]; omega)
                        have HR2 : Hid (HMat wr h A0.length fh (lenf (zipL A0 A1)) (offs (zipL A0 A1)) ub szu (fp2 (valp (zipL A0 A1)) (k + 1) 0)) := by
                          have := HR.out
                          rw [hje.out] at this
                          exact this.congr (fp2_next _ k)
                        clear HR
                        go_wp2_with fail
                        exact ⟨⟨k + 1, hlt, by simp, HR2, HT, HB⟩, by simp [intOf]; omega⟩
                  · have hke := hid (show k = A0.length by omega)
                    obtain ⟨w37, hw37⟩ : ∃ x, x = wr := ⟨_, rfl⟩
                    subst hw37
                    have HM37 : Hid (HMat w37 h A0.length fh (lenf (zipL A0 A1)) (offs (zipL A0 A1)) ub szu (fun i j => flp2 (valp (zipL A0 A1) i j))) := HR.out.congr fun i j hi hj => by unfold fp2; rw [if_pos (.inl (by have := hke.out; omega))]
                    have L1 := hid (HT.out.list HA.out.l1 CL.out.R1 (by decide) CL.out.a1 (by decide))
                    have L2 := hid (HT.out.list HA.out.l2 CL.out.R2 (by decide) CL.out.a2 (by decide))
                    have L3 := hid (HT.out.list HA.out.l3 CL.out.R3 (by decide) CL.out.a3 (by decide))
                    have RP37 := hid (HT.out.row HA.out.bun.rp CL.out.p (by decide))
                    have hBS4 : w26.heap.size ≤ S4 := by have := HA.out.s01; have := HA.out.s12; have := HA.out.s23; have := HA.out.s34; omega
                    have PO := hid (HT.out.pool (HA.out.pool.mono hBS4) l70 CL.out.own (by decide))
                    have hz37 := HT.out.1
                    have T37 := HT
                    have B37 := HB
                    clear HR hk hke HT HB
                    as_aux_lemma =>
                      obtain ⟨ab1, sz1, hm1, hb1⟩ := (L1.out).mat
                      have CA1 : Hid (∀ i, i < A2.length → 0 < lenf A2 i → cls ab1 = 2) := fun i hi h0 => CL.out.a1 _ (hb1 i hi h0)
                      have BA1 : Hid (∀ i, i < A2.length → 0 < lenf A2 i → w26.heap.size ≤ ab1) := fun i hi h0 => by have := own_ge L1.out.own (hb1 i hi h0); have := HA.out.s01; have := HA.out.s12; have := HA.out.s23; omega
                      have HM1 := hid hm1
                      clear hm1 hb1
                      go_wp2_with fail
                      refine (flip_any w26.heap.size R1 A2.length f1 (lenf A2) (fun _ => ab1) (offs A2) (fun _ => sz1) (vals A2) A2.length w37 l2 j2 BA1 HM1).mono ?_
                      rintro e w38 ⟨rfl, MF1, hT38, hB38⟩
                      have T38 : Hid (TM cls [2] w37 w38) := hT38.out.mono (fun b _ hb => by obtain ⟨i, hi, h0, e⟩ := hb; show cls b ∈ [2]; rw [e, CA1.out i hi h0]; decide)
                      have B38 := hid (B37.out.trans hB38.out)
                      clear hT38 hB38 HM1
                      obtain ⟨ab2, sz2, hm2, hb2⟩ := ((T38.out.list L2.out CL.out.R2 (by decide) CL.out.a2 (by decide))).mat
                      have CA2 : Hid (∀ i, i < A3.length → 0 < lenf A3 i → cls ab2 = 3) := fun i hi h0 => CL.out.a2 _ (hb2 i hi h0)
                      have BA2 : Hid (∀ i, i < A3.length → 0 < lenf A3 i → w26.heap.size ≤ ab2) := fun i hi h0 => by have := own_ge L2.out.own (hb2 i hi h0); have := HA.out.s01; have := HA.out.s12; have := HA.out.s23; omega
                      have HM2 := hid hm2
                      clear hm2 hb2
                      go_wp2_with fail
                      refine (flip_any w26.heap.size R2 A3.length f2 (lenf A3) (fun _ => ab2) (offs A3) (fun _ => sz2) (vals A3) A3.length w38 l3 j3 BA2 HM2).mono ?_
                      rintro e w39 ⟨rfl, MF2, hT39, hB39⟩
                      have T39 : Hid (TM cls [3] w38 w39) := hT39.out.mono (fun b _ hb => by obtain ⟨i, hi, h0, e⟩ := hb; show cls b ∈ [3]; rw [e, CA2.out i hi h0]; decide)
                      have B39 := hid (B38.out.trans hB39.out)
                      clear hT39 hB39 HM2
                      obtain ⟨ab3, sz3, hm3, hb3⟩ := (((T38.out.app T39.out).list L3.out CL.out.R3 (by decide) CL.out.a3 (by decide))).mat
                      have CA3 : Hid (∀ i, i < A4.length → 0 < lenf A4 i → cls ab3 = 4) := fun i hi h0 => CL.out.a3 _ (hb3 i hi h0)
                      have BA3 : Hid (∀ i, i < A4.length → 0 < lenf A4 i → w26.heap.size ≤ ab3) := fun i hi h0 => by have := own_ge L3.out.own (hb3 i hi h0); have := HA.out.s01; have := HA.out.s12; have := HA.out.s23; omega
                      have HM3 := hid hm3
                      clear hm3 hb3
                      go_wp2_with fail
                      refine (flip_any w26.heap.size R3 A4.length f3 (lenf A4) (fun _ => ab3) (offs A4) (fun _ => sz3) (vals A4) A4.length w39 l4 j4 BA3 HM3).mono ?_
                      rintro e w40 ⟨rfl, MF3, hT40, hB40⟩
                      have T40 : Hid (TM cls [4] w39 w40) := hT40.out.mono (fun b _ hb => by obtain ⟨i, hi, h0, e⟩ := hb; show cls b ∈ [4]; rw [e, CA3.out i hi h0]; decide)
                      have B40 := hid (B39.out.trans hB40.out)
                      clear hT40 hB40 HM3
                      have PO40 := hid (((T38.out.app T39.out).app T40.out).pool PO.out l70 CL.out.own (by decide))
                      have RP40 := hid (((T38.out.app T39.out).app T40.out).row RP37.out CL.out.p (by decide))
                      obtain ⟨szp, hmp⟩ := PO40.out.mat RP40.out
                      have HMP := hid hmp
                      have CAP : Hid (∀ i, i < A0.length → 0 < lenf A7 i → cls (bkf fp i) = 5) := fun i hi h0 => CL.out.own i _ hi (PO40.out.blk hi h0)
                      have BAP : Hid (∀ i, i < A0.length → 0 < lenf A7 i → w26.heap.size ≤ bkf fp i) := fun i hi h0 => by exact own_ge (PO40.out.each hi) (PO40.out.blk hi h0)
                      clear hmp
                      go_wp2_with fail
                      refine (flip_any w26.heap.size p A0.length fp (lenf A7) (bkf fp) (fun _ => 0) szp (vals A7) A0.length w40 l0 j7 BAP HMP).mono ?_
                      rintro e w41 ⟨rfl, MFP, hTP, hB41⟩
                      have T41 : Hid (TM cls [5] w40 w41) := hTP.out.mono (fun b _ hb => by obtain ⟨i, hi, h0, e⟩ := hb; show cls b ∈ [5]; rw [e, CAP.out i hi h0]; decide)
                      have B41 := hid (B40.out.trans hB41.out)
                      have GP := hid (growIn_pool PO40.out HMP.out MFP.out hTP.out)
                      clear hB41 hTP HMP
                      as_aux_lemma =>
                        have PA41 : Hid (0 < B8.length → av6 = some ⟨kb6, 0, none⟩ ∧ cls kb6 = 6 ∧ w26.heap.size ≤ kb6 ∧ PaAt w41 kb6 sz6 B8 0) := fun h0 => ⟨(HPA2.out h0).1, CL.out.b6 _ (HPA2.out h0).2.1, (HPA2.out h0).2.2.1, (HPA2.out h0).2.2.2.tm ((((T37.out.app T38.out).app T39.out).app T40.out).app T41.out) (by rw [CL.out.b6 _ (HPA2.out h0).2.1]; decide)⟩
                        clear HPA2
                        go_wp2_with fail
                        go_loopw [37] (fun i wr => ∃ k : Nat, k ≤ B8.length ∧ i = .int .i64 k ∧ Hid (0 < B8.length → PaAt wr kb6 sz6 B8 k) ∧ Hid (TM cls [6] w41 wr) ∧ Hid (Below w26.heap.size w26 wr)) (fun i _ => B8.length - (intOf i).toNat)
                        case atStart => exact ⟨0, Nat.zero_le _, rfl, hid (fun h0 => (PA41.out h0).2.2.2), TM.refl _ _ _, B41⟩
                        case round =>
                          obtain ⟨k, hk, rfl, HP, HT, HB⟩ := hrel
                          by_cases hlt : k < B8.length
                          · obtain ⟨e6, hc6, hB6, _⟩ := PA41.out (by omega)
                            obtain ⟨⟨gg, hg⟩, hc⟩ := HP.out (by omega)
                            have d1 := hc k hlt
                            rw [if_neg (by omega)] at d1
                            have HP2 := hid ((HP.out (by omega)).set hlt)
                            obtain ⟨y, hy⟩ : ∃ y, y = B8.getD k false := ⟨_, rfl⟩
                            rw [← hy] at d1 HP2
                            have z1 := hg.frozen k
                            have HT2 : Hid (TM cls [6] w41 (wr.setCell ⟨kb6, k, none⟩ (.bool (!y)))) := HT.out.set hc6 (by decide)
                            have HB2 : Hid (Below w26.heap.size w26 (wr.setCell ⟨kb6, k, none⟩ (.bool (!y)))) := HB.out.setCell hB6 _
                            clear hy hg hc HP HT HB
                            subst e6
                            go_wp2_with fail
                            exact ⟨⟨k + 1, hlt, by simp, hid (fun _ => HP2.out), HT2, HB2⟩, by simp [intOf]; omega⟩
                          · have hke := hid (show k = B8.length by omega)
                            obtain ⟨w42, hw42⟩ : ∃ x, x = wr := ⟨_, rfl⟩
                            subst hw42
                            have PA42 : Hid (0 < B8.length → av6 = some ⟨kb6, 0, none⟩ ∧ cls kb6 = 6 ∧ PaAt w42 kb6 sz6 B8 B8.length) := fun h0 => ⟨(PA41.out h0).1, (PA41.out h0).2.1, by have := HP.out h0; rw [hke.out] at this; exact this⟩
                            have T42 := HT
                            have B42 := HB
                            clear HP HT HB hk hke PA41
                            have RQ42 : Hid (w42.rowIs q 4 A0.length (fun j => .bool (decide (j < 0)))) := ((((((T37.out.app T38.out).app T39.out).app T40.out).app T41.out).app T42.out).row HA.out.bun.rq CL.out.q (by decide)).congr (fun i hi => by simp)
                            have RP42 : Hid (w42.rowIs P 100 A0.length (fun j => .int .i64 (if j < 0 then (j : Int) + 1 else 0))) := ((((((T37.out.app T38.out).app T39.out).app T40.out).app T41.out).app T42.out).row HA.out.bun.rP CL.out.P (by decide)).congr (fun i hi => by simp)
                            have hBq := HA.out.bun.bq.1
                            have hBP := HA.out.bun.bP.1
                            as_aux_lemma =>
                              go_wp2_with fail
                              go_loopw [38] (fun i wr => ∃ k : Nat, k ≤ A0.length ∧ i = .int .i64 k ∧ Hid (wr.rowIs q 4 A0.length (fun j => .bool (decide (j < k)))) ∧ Hid (wr.rowIs P 100 A0.length (fun j => .int .i64 (if j < k then (j : Int) + 1 else 0))) ∧ Hid (TM cls [7, 8] w42 wr) ∧ Hid (Below w26.heap.size w26 wr)) (fun i _ => A0.length - (intOf i).toNat)
                              case atStart => exact ⟨0, Nat.zero_le _, rfl, RQ42, RP42, TM.refl _ _ _, B42⟩
                              case round =>
                                obtain ⟨k, hk, rfl, HQ, HP, HT, HB⟩ := hrel
                                clear RQ42 RP42
                                by_cases hlt : k < A0.length
                                · have d1 : wr.cell? ⟨q, k, none⟩ = some (.bool false) := by have := HQ.out.cell (i := k) hlt; simpa using this
                                  have z1 := HQ.out.frozen k
                                  have HQ2 := hid (q_step HQ.out)
                                  have HT2 : Hid (TM cls [7, 8] w42 (wr.setCell ⟨q, k, none⟩ (.bool true))) := HT.out.set CL.out.q (by decide)
                                  have HB2 : Hid (Below w26.heap.size w26 (wr.setCell ⟨q, k, none⟩ (.bool true))) := HB.out.setCell hBq _
                                  have HP2 : Hid ((wr.setCell ⟨q, k, none⟩ (.bool true)).rowIs P 100 A0.length (fun j => .int .i64 (if j < k then (j : Int) + 1 else 0))) := HP.out.of_block (Go.Deep.blk_setCell_other _ _ _ _ (by show P ≠ q; exact rowIs_ne HP.out HQ.out (by decide)))
                                  have x7 := ((((((((T37.out.app T38.out).app T39.out).app T40.out).app T41.out).app T42.out).app HT2.out).row HA.out.rc CL.out.c (by decide)).cell (i := 7) (by omega))
                                  have HSP := hid (setPool_any c P A0.length k _ ((k : Int) + 1) _ l0 hlt x7 HP2)
                                  have HP3 := hid (p_step HP2.out)
                                  have HQ3 : Hid (((wr.setCell ⟨q, k, none⟩ (.bool true)).setCell ⟨P, k, none⟩ (.int .i64 ((k : Int) + 1))).rowIs q 4 A0.length (fun j => .bool (decide (j < k + 1)))) := HQ2.out.of_block (Go.Deep.blk_setCell_other _ _ _ _ (by show q ≠ P; exact Ne.symm (rowIs_ne HP.out HQ.out (by decide))))
                                  have HT3 : Hid (TM cls [7, 8] w42 ((wr.setCell ⟨q, k, none⟩ (.bool true)).setCell ⟨P, k, none⟩ (.int .i64 ((k : Int) + 1)))) := HT2.out.set CL.out.P (by decide)
                                  have HB3 : Hid (Below w26.heap.size w26 ((wr.setCell ⟨q, k, none⟩ (.bool true)).setCell ⟨P, k, none⟩ (.int .i64 ((k : Int) + 1)))) := HB2.out.setCell hBP _
                                  clear HQ HP HT HB HT2 HB2 HP2 HQ2 x7
                                  go_wp2_with fail
                                  refine HSP.out.mono ?_
                                  rintro e w9 ⟨rfl, rfl⟩
                                  go_wp2_with fail
                                  exact ⟨⟨k + 1, hlt, by simp, HQ3, HP3, HT3, HB3⟩, by simp [intOf]; omega⟩
                                · have hke := hid (show k = A0.length by omega)
                                  obtain ⟨w43, hw43⟩ : ∃ x, x = wr := ⟨_, rfl⟩
                                  subst hw43
                                  have RQ43 : Hid (w43.rowIs q 4 A0.length (fun j => .bool true)) := HQ.out.congr (fun i hi => by have := hke.out; simp; omega)
                                  have RP43 : Hid (w43.rowIs P 100 A0.length (fun j => .int .i64 ((j : Int) + 1))) := HP.out.congr (fun i hi => by rw [if_pos (by have := hke.out; omega)])
                                  have T43 := HT
                                  have B43 := HB
                                  clear HQ HP HT HB hk hke hBq hBP
                                  have FM43 := hid (fm_tight (((((((T37.out.app T38.out).app T39.out).app T40.out).app T41.out).app T42.out).app T43.out).fm HA.out.bun.rF CL.out.F (by decide)))
                                  obtain ⟨nF, hnF⟩ : ∃ x, x = Maps.size (factsD K5 V6 (.map [])) := ⟨_, rfl⟩
                                  have hnF2 : nF ≤ 1048576 := by rw [hnF]; exact Nat.le_trans HSZ.out l5
                                  obtain ⟨D0, hD0⟩ : ∃ x, x = factsD K5 V6 (.map []) := ⟨_, rfl⟩
                                  have HD0 := hid hD0
                                  rw [← hnF] at FM43
                                  rw [← hD0] at FM43 GG
                                  have HNF := hid hnF
                                  clear hnF hD0
                                  have hBF := HA.out.bun.bF.1
                                  as_aux_lemma =>
                                    go_wp2_with fail
                                    go_loopw [39] (fun i wr => ∃ (k : Nat) (Dk : DU), k ≤ K5.length ∧ i = .int .i64 k ∧ Hid (FM wr F (nF + k) Dk) ∧ Hid (factsD (K5.drop k) ((V6.map flp).drop k) Dk = factsD K5 (V6.map flp) D0) ∧ Hid (TM cls [9] w43 wr) ∧ Hid (Below w26.heap.size w26 wr)) (fun i _ => K5.length - (intOf i).toNat)
                                    case atStart => exact ⟨0, D0, Nat.zero_le _, rfl, FM43, rfl, TM.refl _ _ _, B43⟩
                                    case round =>
                                      obtain ⟨k, Dk, hk, rfl, HF, HD, HT, HB⟩ := hrel
                                      clear FM43
                                      by_cases hlt : k < K5.length
                                      · have hltv : k < V6.length := by rw [E56.out]; exact hlt
                                        obtain ⟨kb, ko, x, y, rfl, d1, d2, kl1, X1, X2⟩ := G5.out.get HB.out hlt
                                        obtain ⟨vb, vo, z, rfl, d3, _, vl1, Y1, Y2⟩ := G6.out.get HB.out hltv
                                        have HWX := hid (hwk.out (x, y) (mem_drop X1.out))
                                        have HN := hid (show factsD (K5.drop (k + 1)) ((V6.map flp).drop (k + 1)) (Dk.put (kl (x, y)) (.lit (.int .i64 (flp z)))) = factsD K5 (V6.map flp) D0 by rw [← factsD_step (v := flp z) Dk X1.out (by rw [← List.map_drop, ← List.map_drop, Y1.out]; rfl)]; exact HD.out)
                                        have RCk := hid ((((((((T37.out.app T38.out).app T39.out).app T40.out).app T41.out).app T42.out).app T43.out).app HT.out).row HA.out.rc CL.out.c (by decide))
                                        have x4 := RCk.out.cell (i := 4) (by omega)
                                        have hzB := HB.out.size
                                        have HSF := hid (fun ww => setFact_any w26.heap.size c F (nF + k) Dk (x, y) (flp z) ww HWX (hid (flp_wf z)) (by omega))
                                        unfold kv flp at HSF
                                        dsimp only at HSF
                                        have n1 : kb ≠ F := by omega
                                        have n2 : vb ≠ F := by omega
                                        have lw1 := cell_lt' d1
                                        have lw3 := cell_lt' d3
                                        clear X1 X2 Y1 Y2 HD RCk
                                        go_wp2_with fail
                                        go_region_held3 (fun w' => w'.cell? ⟨kb, ko + k * 2, none⟩ = some (.int .i64 x) ∧ w'.cell? ⟨kb, ko + k * 2 + 1, none⟩ = some (.int .i64 y) ∧ w'.cell? ⟨vb, vo + k, none⟩ = some (.int .i64 z)) (first | exact ⟨by assumption, by assumption, by assumption⟩ | go_keep)
                                          (first
                                          | (go_at_call 47; refine (HSF.out _ ?_ hBF ?_ ?_).mono ?_; (exact hzB); (exact x4); (exact HF); rintro e w9 ⟨rfl, HF9, HU9, HB9⟩; (have f1 := (World.cell?_of_block (HU9.out.2 kb lw1 n1)).trans d1); (have f2 := (World.cell?_of_block (HU9.out.2 kb lw1 n1)).trans d2); (have f3 := (World.cell?_of_block (HU9.out.2 vb lw3 n2)).trans d3)))
                                        have HB10 : Hid (Below w26.heap.size w26 w9) := (HB.out.drew).trans HB9.out
                                        have HT10 : Hid (TM cls [9] w43 w9) := (HT.out.drew).but CL.out.F (by decide) HU9.out
                                        have HF10 : Hid (FM w9 F (nF + (k + 1)) (Dk.put (kl (x, y)) (.lit (.int .i64 (flp z))))) := HF9.out
                                        clear HF9 HU9 HB9 HF HT HB HSF
                                        go_wp2_with fail
                                        exact ⟨⟨k + 1, _, hlt, by simp, HF10, HN, HT10, HB10⟩, by simp [intOf]; omega⟩
                                      · have HDF := hid (show Dk = factsD K5 (V6.map flp) D0 by
                                          have := HD.out
                                          rw [List.drop_of_length_le (by omega), List.drop_of_length_le (by rw [List.length_map, E56.out]; omega)] at this
                                          rw [show factsD [] [] Dk = Dk from by unfold factsD; rfl] at this
                                          exact this)
                                        obtain ⟨w44, hw44⟩ : ∃ x, x = wr := ⟨_, rfl⟩
                                        subst hw44
                                        have FM44 : Hid (FM w44 F (nF + k) (factsD K5 (V6.map flp) D0)) := by rw [← HDF.out]; exact HF.out
                                        obtain ⟨nF4, hnF4⟩ : ∃ x, x = nF + k := ⟨_, rfl⟩
                                        rw [← hnF4] at FM44
                                        have T44 := HT
                                        have B44 := HB
                                        clear HF HD HT HB hk HDF hnF4 hnF2 HNF hBF
                                        have HM44 := hid (((((((T38.out.app T39.out).app T40.out).app T41.out).app T42.out).app T43.out).app T44.out).hmat HM37.out CL.out.h (by decide) CU.out (by decide))
                                        have hBh := HA.out.bun.bh.1
                                        have hhS : h < w27.heap.size := by
                                          rcases Nat.lt_or_ge h w27.heap.size with hh | hh
                                          · exact hh
                                          · have := CL.out.new h hh; rw [CL.out.h] at this; cases this
                                        have hch : c ≠ h := fun e => by have := CL.out.c; rw [e, CL.out.h] at this; cases this
                                        have hz44 : w27.heap.size ≤ w44.heap.size := Nat.le_trans hz27 ((((((((T37.out.app T38.out).app T39.out).app T40.out).app T41.out).app T42.out).app T43.out).app T44.out)).1
                                        have hz267 := T27.out.size
                                        clear HM37
                                        as_aux_lemma =>
                                          go_wp2_with fail
                                          go_loopw [40] (fun i wr => ∃ (k : Nat) (fh' : Nat → Value), k ≤ A0.length ∧ i = .int .i64 k ∧ Hid (GL w44 wr w27.heap.size h A0.length fh fh' (zipL A0 A1) k) ∧ Hid (TM cls [10] w44 wr) ∧ Hid (Below w26.heap.size w26 wr)) (fun i _ => A0.length - (intOf i).toNat)
                                          case atStart => exact ⟨0, fh, Nat.zero_le _, rfl, hid ⟨HM44.out.row, fun _ _ _ => rfl, fun i hi => by omega⟩, TM.refl _ _ _, B44⟩
                                          case round =>
                                            obtain ⟨k, fh', hk, rfl, HG, HT, HB⟩ := hrel
                                            by_cases hlt : k < A0.length
                                            · have HTi : Hid (Tight2 wr (((zipL A0 A1).getD k []).map flp2) (fh' k)) := by
                                                show Tight2 _ _ _
                                                rw [HG.out.todo k (Nat.le_refl _) hlt]
                                                refine (HM44.out.tight hlt (by rw [List.length_map]) (fun j hj => map_flp2 _ hj)).tch HT.out (fun b hb => ?_)
                                                show cls b ∉ [10]
                                                rw [CL.out.ub b (cut_blk HA.out.cut hlt hb)]; decide
                                              have hll : (((zipL A0 A1).getD k []).map flp2).length ≤ 1048576 := by rw [List.length_map]; exact Nat.le_trans (zipL_get_le E01.out k) t0.out
                                              have x0 := (((((((((T37.out.app T38.out).app T39.out).app T40.out).app T41.out).app T42.out).app T43.out).app T44.out).app HT.out).row HA.out.rc CL.out.c (by decide)).cell (i := 0) (by omega)
                                              have hzw := HT.out.1
                                              have HGC := hid (growLink_any w26.heap.size c h A0.length k fh' _ (k : Int) (k : Int) wr l0 hlt hll (by omega) hBh hch x0 (hid HG.out.row) HTi)
                                              have hzr : w27.heap.size ≤ wr.heap.size := by omega
                                              clear x0 HTi hll
                                              go_wp2_with fail
                                              refine HGC.out.mono ?_
                                              rintro e w9 ⟨rfl, ⟨vv, HR9, HO9⟩, HU9, HB9⟩
                                              have HG9 := hid (HG.out.step hhS hzr HR9.out HO9.out HU9.out)
                                              have HT9 := hid (HT.out.but CL.out.h (by decide) HU9.out)
                                              have HB10 := hid (HB.out.trans HB9.out)
                                              clear HGC HR9 HO9 HU9 HB9 HG HT HB
                                              go_wp2_with fail
                                              exact ⟨⟨k + 1, _, hlt, by simp, HG9, HT9, HB10⟩, by simp [intOf]; omega⟩
                                            · have hke := hid (show k = A0.length by omega)
                                              obtain ⟨w45, hw45⟩ : ∃ x, x = wr := ⟨_, rfl⟩
                                              subst hw45
                                              have HG45 : Hid (GL w44 w45 w27.heap.size h A0.length fh fh' (zipL A0 A1) A0.length) := by
                                                have := HG.out
                                                rw [hke.out] at this
                                                exact this
                                              have T45 := HT
                                              have B45 := HB
                                              clear HG HT HB hk hke HM44
                                              as_aux_lemma =>
                                                have GI1 : Hid (GrowIn w45 w27.heap.size R1 A2.length f1 (fun _ => False) (fun i => (A2.getD i []).map flp)) := growIn_cut L1.out.cut (((((((T39.out.app T40.out).app T41.out).app T42.out).app T43.out).app T44.out).app T45.out).mat MF1.out CL.out.R1 (by decide) CA1.out (by decide)) (fun b hb e => by have := CL.out.a1 b hb; rw [e, CL.out.R1] at this; cases this)
                                                have hzz1 : w27.heap.size ≤ w45.heap.size := Nat.le_trans hz27 (((((((((T37.out.app T38.out).app T39.out).app T40.out).app T41.out).app T42.out).app T43.out).app T44.out).app T45.out)).1
                                                have hBR1 : w26.heap.size ≤ R1 := by have := L1.out.lo; have := HA.out.s01; have := HA.out.s12; have := HA.out.s23; omega
                                                have jf1 : Hid (∀ i, ((A2.getD i []).map flp).length ≤ 1048576) := fun i => by rw [List.length_map]; exact j2.out i
                                                go_wp2_with fail
                                                refine (grow_any w26.heap.size w27.heap.size R1 A2.length f1 (fun _ => False) (fun i => (A2.getD i []).map flp) A2.length w45 l2 jf1 hzz1 hz267 hBR1 GI1).mono ?_
                                                rintro e w46 ⟨rfl, ⟨g1f, RG1, OG1⟩, hT1, hB1⟩
                                                have T46 : Hid (TM cls [11] w45 w46) := hT1.out.mono (fun b _ hb => by rcases hb with e | ⟨i, _, hO, _⟩; (show cls b ∈ [11]; rw [e, CL.out.R1]; decide); exact absurd hO (fun h => h))
                                                have B46 := hid (B45.out.trans hB1.out)
                                                clear hT1 hB1 GI1 hzz1 hBR1 jf1
                                                have GI2 : Hid (GrowIn w46 w27.heap.size R2 A3.length f2 (fun _ => False) (fun i => (A3.getD i []).map flp)) := growIn_cut L2.out.cut (((((((T40.out.app T41.out).app T42.out).app T43.out).app T44.out).app T45.out).app T46.out).mat MF2.out CL.out.R2 (by decide) CA2.out (by decide)) (fun b hb e => by have := CL.out.a2 b hb; rw [e, CL.out.R2] at this; cases this)
                                                have hzz2 : w27.heap.size ≤ w46.heap.size := Nat.le_trans hz27 ((((((((((T37.out.app T38.out).app T39.out).app T40.out).app T41.out).app T42.out).app T43.out).app T44.out).app T45.out).app T46.out)).1
                                                have hBR2 : w26.heap.size ≤ R2 := by have := L2.out.lo; have := HA.out.s01; have := HA.out.s12; have := HA.out.s23; omega
                                                have jf2 : Hid (∀ i, ((A3.getD i []).map flp).length ≤ 1048576) := fun i => by rw [List.length_map]; exact j3.out i
                                                go_wp2_with fail
                                                refine (grow_any w26.heap.size w27.heap.size R2 A3.length f2 (fun _ => False) (fun i => (A3.getD i []).map flp) A3.length w46 l3 jf2 hzz2 hz267 hBR2 GI2).mono ?_
                                                rintro e w47 ⟨rfl, ⟨g2f, RG2, OG2⟩, hT2, hB2⟩
                                                have T47 : Hid (TM cls [12] w46 w47) := hT2.out.mono (fun b _ hb => by rcases hb with e | ⟨i, _, hO, _⟩; (show cls b ∈ [12]; rw [e, CL.out.R2]; decide); exact absurd hO (fun h => h))
                                                have B47 := hid (B46.out.trans hB2.out)
                                                clear hT2 hB2 GI2 hzz2 hBR2 jf2
                                                have GI3 : Hid (GrowIn w47 w27.heap.size R3 A4.length f3 (fun _ => False) (fun i => (A4.getD i []).map flp)) := growIn_cut L3.out.cut (((((((T41.out.app T42.out).app T43.out).app T44.out).app T45.out).app T46.out).app T47.out).mat MF3.out CL.out.R3 (by decide) CA3.out (by decide)) (fun b hb e => by have := CL.out.a3 b hb; rw [e, CL.out.R3] at this; cases this)
                                                have hzz3 : w27.heap.size ≤ w47.heap.size := Nat.le_trans hz27 (((((((((((T37.out.app T38.out).app T39.out).app T40.out).app T41.out).app T42.out).app T43.out).app T44.out).app T45.out).app T46.out).app T47.out)).1
                                                have hBR3 : w26.heap.size ≤ R3 := by have := L3.out.lo; have := HA.out.s01; have := HA.out.s12; have := HA.out.s23; omega
                                                have jf3 : Hid (∀ i, ((A4.getD i []).map flp).length ≤ 1048576) := fun i => by rw [List.length_map]; exact j4.out i
                                                go_wp2_with fail
                                                refine (grow_any w26.heap.size w27.heap.size R3 A4.length f3 (fun _ => False) (fun i => (A4.getD i []).map flp) A4.length w47 l4 jf3 hzz3 hz267 hBR3 GI3).mono ?_
                                                rintro e w48 ⟨rfl, ⟨g3f, RG3, OG3⟩, hT3, hB3⟩
                                                have T48 : Hid (TM cls [13] w47 w48) := hT3.out.mono (fun b _ hb => by rcases hb with e | ⟨i, _, hO, _⟩; (show cls b ∈ [13]; rw [e, CL.out.R3]; decide); exact absurd hO (fun h => h))
                                                have B48 := hid (B47.out.trans hB3.out)
                                                clear hT3 hB3 GI3 hzz3 hBR3 jf3
                                                have GP48 := hid (growIn_tm GP.out ((((((T42.out.app T43.out).app T44.out).app T45.out).app T46.out).app T47.out).app T48.out) CL.out.p (by decide) CL.out.own (by decide))
                                                have jfp : Hid (∀ i, ((A7.getD i []).map flp).length ≤ 1048576) := fun i => by rw [List.length_map]; exact j7.out i
                                                have hz48 : w26.heap.size ≤ w48.heap.size := B48.out.size
                                                have hBp := HA.out.bun.bp.1
                                                go_wp2_with fail
                                                refine (grow_any w26.heap.size w26.heap.size p A0.length fp (fun _ => True) (fun i => (A7.getD i []).map flp) A0.length w48 l0 jfp hz48 (Nat.le_refl _) hBp GP48).mono ?_
                                                rintro e w49 ⟨rfl, ⟨gpf, RGP, OGP⟩, hTp, hBpp⟩
                                                have T49 : Hid (TM cls [14, 5] w48 w49) := hTp.out.mono (fun b _ hb => by rcases hb with e | ⟨i, hi, _, hb'⟩; (show cls b ∈ [14, 5]; rw [e, CL.out.p]; decide); (show cls b ∈ [14, 5]; rw [CL.out.own i b hi hb']; decide))
                                                have B49 := hid (B48.out.trans hBpp.out)
                                                clear hTp hBpp GP48 jfp hz48 hBp GP
                                                as_aux_lemma =>
                                                  have RC49 := hid (((((((((((((T37.out.app T38.out).app T39.out).app T40.out).app T41.out).app T42.out).app T43.out).app T44.out).app T45.out).app T46.out).app T47.out).app T48.out).app T49.out).row HA.out.rc CL.out.c (by decide))
                                                  have HRw : Hid (HRow w49 (some ⟨h, 0, none⟩) ((List.range A0.length).map (lsf (zipL A0 A1)))) := hrow_grown ((((T46.out.app T47.out).app T48.out).app T49.out).row HG45.out.row CL.out.h (by decide)) (fun i hi => ⟨_, (((T46.out.app T47.out).app T48.out).app T49.out).own (HG45.out.done i hi) (fun b hb => CL.out.new b (own_ge (HG45.out.done i hi) hb)) (by decide)⟩)
                                                  have LR1 : Hid (LRow w49 (some ⟨R1, 0, none⟩) ((List.range A2.length).map (fun (i : Nat) => (A2.getD i []).map flp ++ [(i : Int)]))) := lrow_grown (((T47.out.app T48.out).app T49.out).row RG1.out CL.out.R1 (by decide)) (fun i hi => ((T47.out.app T48.out).app T49.out).own (OG1.out i hi) (fun b hb => CL.out.new b (own_ge (OG1.out i hi) hb)) (by decide))
                                                  have LR2 : Hid (LRow w49 (some ⟨R2, 0, none⟩) ((List.range A3.length).map (fun (i : Nat) => (A3.getD i []).map flp ++ [(i : Int)]))) := lrow_grown ((T48.out.app T49.out).row RG2.out CL.out.R2 (by decide)) (fun i hi => (T48.out.app T49.out).own (OG2.out i hi) (fun b hb => CL.out.new b (own_ge (OG2.out i hi) hb)) (by decide))
                                                  have LR3 : Hid (LRow w49 (some ⟨R3, 0, none⟩) ((List.range A4.length).map (fun (i : Nat) => (A4.getD i []).map flp ++ [(i : Int)]))) := lrow_grown (T49.out.row RG3.out CL.out.R3 (by decide)) (fun i hi => T49.out.own (OG3.out i hi) (fun b hb => CL.out.new b (own_ge (OG3.out i hi) hb)) (by decide))
                                                  have LRP : Hid (LRow w49 (some ⟨p, 0, none⟩) ((List.range A0.length).map (fun (i : Nat) => (A7.getD i []).map flp ++ [(i : Int)]))) := lrow_grown RGP.out OGP.out
                                                  have PA49 : Hid (0 < B8.length → av6 = some ⟨kb6, 0, none⟩ ∧ PaAt w49 kb6 sz6 B8 B8.length) := fun h0 => ⟨(PA42.out h0).1, (PA42.out h0).2.2.tm ((((((T43.out.app T44.out).app T45.out).app T46.out).app T47.out).app T48.out).app T49.out) (by rw [(PA42.out h0).2.1]; decide)⟩
                                                  have RQ49 := hid ((((((T44.out.app T45.out).app T46.out).app T47.out).app T48.out).app T49.out).row RQ43.out CL.out.q (by decide))
                                                  have RP49 := hid ((((((T44.out.app T45.out).app T46.out).app T47.out).app T48.out).app T49.out).row RP43.out CL.out.P (by decide))
                                                  have FM49 := hid (((((T45.out.app T46.out).app T47.out).app T48.out).app T49.out).fm FM44.out CL.out.F (by decide))
                                                  have hz49 : w26.heap.size ≤ w49.heap.size := B49.out.size
                                                  clear HG45 RG1 RG2 RG3 OG1 OG2 OG3 RGP OGP PA42 RQ43 RP43 FM44 T37 T38 T39 T40 T41 T42 T43 T44 T45 T46 T47 T48 T49 B37 B38 B39 B40 B41 B42 B43 B44 B45 B46 B47 B48 MF1 MF2 MF3 MFP L1 L2 L3 PO PO40 RP37 RP40 CA1 CA2 CA3 BA1 BA2 BA3 CAP BAP CU BU HUB HA CL
                                                  have k0 := RC49.out.cell (i := 0) (by omega)
                                                  have hHo := hid (holdsC c (some ⟨h, 0, none⟩) A0.length ((List.range A0.length).map (lsf (zipL A0 A1))) w49 (by simp; exact l0) (hid (ls_le E01.out tn0.out)) (by rw [show ((List.range A0.length).map (lsf (zipL A0 A1))).length = A0.length by simp]; exact k0) HRw)
                                                  rw [to_eq E01.out ER.out, sh_eq E01.out ER.out] at hHo
                                                  simp only [List.length_map, List.length_range] at hHo
                                                  clear k0
                                                  as_aux_lemma =>
                                                    go_wp2_with fail
                                                    refine hHo.out.mono ?_
                                                    rintro e w50 ⟨⟨ta2, tc2, sa2, sc2, rfl, TO2, SH2⟩, E50⟩
                                                    clear hHo HRw
                                                    go_wp2_with fail
                                                    go_loopw [43] (fun i wr => ∃ k : Nat, k ≤ A0.length ∧ i = .int .i64 k ∧ Hid (Below w50.heap.size w50 wr)) (fun i _ => A0.length - (intOf i).toNat)
                                                    case atStart => exact ⟨0, Nat.zero_le _, rfl, Below.refl _ _⟩
                                                    case round =>
                                                      obtain ⟨k, hk, rfl, HB⟩ := hrel
                                                      have Ek := hid (below_next E50.out HB.out)
                                                      have Dk := hid (B49.out.trans (Ek.out.mono hz49))
                                                      by_cases hlt : k < A0.length
                                                      · have hlt1 : k < A1.length := by rw [E01.out]; exact hlt
                                                        obtain ⟨b, off, ai, ci, xs, rfl, dd1, hbl, RI, _, HX, _⟩ := G0.out.get Dk.out hlt
                                                        obtain ⟨b2, off2, ai2, ci2, ys, rfl, dd2, hbl2, RI2, _, HX2, _⟩ := G1.out.get Dk.out hlt1
                                                        obtain ⟨bt, offt, at_, ct, ts, rfl, dd3, _, RI3, _, HX3, _⟩ := TO2.out.get HB.out (i := k) (by simpa using hlt)
                                                        obtain ⟨bs, offs_, as_, cs_, ss, rfl, dd4, _, RI4, _, HX4, _⟩ := SH2.out.get HB.out (i := k) (by simpa using hlt)
                                                        have HTS := hid (show ts = xs.map flp ++ [(k : Int)] by rw [← HX3.out, grown_getD hlt, HX.out])
                                                        have HSS := hid (show ss = ys.map flp ++ [(k : Int)] by rw [← HX4.out, grown_getD hlt, HX2.out])
                                                        have HL := hid (show ys.length = xs.length by rw [← HX.out, ← HX2.out]; exact ER.out k hlt)
                                                        have HLt := hid (grown_len HTS.out)
                                                        have HLs := hid (show ss.length = xs.length + 1 by rw [grown_len HSS.out, HL.out])
                                                        rw [HLt.out] at dd3
                                                        rw [HLs.out] at dd4
                                                        rw [HL.out] at dd2
                                                        have hxl : xs.length ≤ 1048576 := by rw [← HX.out]; exact j0.out k
                                                        clear HX HX2 HX3 HX4
                                                        obtain ⟨wq, hwq⟩ : ∃ x, x = wr := ⟨_, rfl⟩
                                                        subst hwq
                                                        as_aux_lemma =>
                                                          go_wp2_with fail
                                                          go_loopw [45] (fun i wr => ∃ jj : Nat, jj ≤ xs.length ∧ i = .int .i64 jj ∧ Hid (Below wq.heap.size wq wr)) (fun i _ => xs.length - (intOf i).toNat)
                                                          case atStart => exact ⟨0, Nat.zero_le _, rfl, Below.refl _ _⟩
                                                          case round =>
                                                            obtain ⟨jj, hj, rfl, HJ⟩ := hrel
                                                            have c1' := (HJ.out.cell (p := ⟨b, off + k, none⟩) (cell_lt' dd1)).trans dd1
                                                            have c2' := (HJ.out.cell (p := ⟨b2, off2 + k, none⟩) (cell_lt' dd2)).trans dd2
                                                            have c3' := (HJ.out.cell (p := ⟨bt, offt + k, none⟩) (cell_lt' dd3)).trans dd3
                                                            have c4' := (HJ.out.cell (p := ⟨bs, offs_ + k, none⟩) (cell_lt' dd4)).trans dd4
                                                            by_cases hjl : jj < xs.length
                                                            · obtain ⟨e3, o3, rfl, q1⟩ := RI.out.at HJ.out hjl
                                                              obtain ⟨e4, o4, rfl, q2⟩ := RI2.out.at HJ.out (i := jj) (by rw [HL.out]; exact hjl)
                                                              obtain ⟨e5, o5, rfl, q3⟩ := RI3.out.at HJ.out (i := jj) (by rw [HLt.out]; omega)
                                                              obtain ⟨e6, o6, rfl, q4⟩ := RI4.out.at HJ.out (i := jj) (by rw [HLs.out]; omega)
                                                              rw [grown_get HTS.out hjl] at q3
                                                              rw [grown_get HSS.out (by rw [HL.out]; exact hjl)] at q4
                                                              obtain ⟨x, hx⟩ : ∃ x, x = xs.getD jj 0 := ⟨_, rfl⟩
                                                              obtain ⟨y, hy⟩ : ∃ y, y = ys.getD jj 0 := ⟨_, rfl⟩
                                                              rw [← hx] at q1 q3
                                                              rw [← hy] at q2 q4
                                                              clear hx hy dd1 dd2 dd3 dd4
                                                              unfold flp at q3 q4
                                                              as_aux_lemma =>
                                                                go_wp2_with fail
                                                                go_quiet (fail)
                                                                as_aux_lemma =>
                                                                  go_wp2_with fail
                                                                  exact ⟨⟨jj + 1, hjl, by simp, below_drewN HJ.out _⟩, by simp [intOf]; omega⟩
                                                            · obtain ⟨e5, o5, rfl, q3⟩ := RI3.out.at HJ.out (i := xs.length) (by rw [HLt.out]; omega)
                                                              obtain ⟨e6, o6, rfl, q4⟩ := RI4.out.at HJ.out (i := xs.length) (by rw [HLs.out]; omega)
                                                              rw [grown_last HTS.out] at q3
                                                              have q4b := grown_last HSS.out
                                                              rw [HL.out] at q4b
                                                              rw [q4b] at q4
                                                              have hje := hid (show jj = xs.length by omega)
                                                              have Dq := hid (below_next HB.out HJ.out)
                                                              clear q4b dd1 dd2 dd3 dd4 c1' c2'
                                                              as_aux_lemma =>
                                                                go_wp2_with fail
                                                                exact ⟨⟨k + 1, hlt, by simp, Dq⟩, by simp [intOf]; omega⟩
                                                      · obtain ⟨w51, hw51⟩ : ∃ x, x = wr := ⟨_, rfl⟩
                                                        subst hw51
                                                        have E51 := Ek
                                                        have D51 := Dk
                                                        clear TO2 SH2 HB Ek Dk E50
                                                        have y1 := (row_below RC49.out E51.out).cell (i := 1) (by omega)
                                                        have y2 := (row_below RC49.out E51.out).cell (i := 2) (by omega)
                                                        have y3 := (row_below RC49.out E51.out).cell (i := 3) (by omega)
                                                        have y5 := (row_below RC49.out E51.out).cell (i := 5) (by omega)
                                                        have y6 := (row_below RC49.out E51.out).cell (i := 6) (by omega)
                                                        as_aux_lemma =>
                                                          go_wp2_with fail
                                                          refine (lists_any c (some ⟨R1, 0, none⟩) (some ⟨R2, 0, none⟩) (some ⟨R3, 0, none⟩) (some ⟨p, 0, none⟩) av6 A2.length A2.length A3.length A3.length A4.length A4.length A0.length A0.length B8.length cv6 w51 y1 y2 y3 y5 y6).mono ?_
                                                          rintro e w52 ⟨rfl, X52⟩
                                                          have E52 := hid (below_next E51.out X52.out)
                                                          have D52 := hid (B49.out.trans (E52.out.mono hz49))
                                                          clear y1 y2 y3 y5 y6
                                                          have hF := hid (flipped_yes (some ⟨R1, 0, none⟩) b2 A2.length d2 ((List.range A2.length).map (fun (i : Nat) => (A2.getD i []).map flp ++ [(i : Int)])) A2 w52 (by simp; exact l2) l2 j2 (hid (fun i hi => grown_getD (by simpa using hi))) (hid (LR1.out.below E52.out)) (hid (G2.out.below D52.out)))
                                                          simp only [List.length_map, List.length_range] at hF
                                                          go_wp2_with fail
                                                          refine hF.out.mono ?_
                                                          rintro e w53 ⟨rfl, X53⟩
                                                          have E53 := hid (below_next E52.out X53.out)
                                                          have D53 := hid (B49.out.trans (E53.out.mono hz49))
                                                          clear hF LR1 X53
                                                          have hF := hid (flipped_yes (some ⟨R2, 0, none⟩) b3 A3.length d3 ((List.range A3.length).map (fun (i : Nat) => (A3.getD i []).map flp ++ [(i : Int)])) A3 w53 (by simp; exact l3) l3 j3 (hid (fun i hi => grown_getD (by simpa using hi))) (hid (LR2.out.below E53.out)) (hid (G3.out.below D53.out)))
                                                          simp only [List.length_map, List.length_range] at hF
                                                          go_wp2_with fail
                                                          refine hF.out.mono ?_
                                                          rintro e w54 ⟨rfl, X54⟩
                                                          have E54 := hid (below_next E53.out X54.out)
                                                          have D54 := hid (B49.out.trans (E54.out.mono hz49))
                                                          clear hF LR2 X54
                                                          have hF := hid (flipped_yes (some ⟨R3, 0, none⟩) b4 A4.length d4 ((List.range A4.length).map (fun (i : Nat) => (A4.getD i []).map flp ++ [(i : Int)])) A4 w54 (by simp; exact l4) l4 j4 (hid (fun i hi => grown_getD (by simpa using hi))) (hid (LR3.out.below E54.out)) (hid (G4.out.below D54.out)))
                                                          simp only [List.length_map, List.length_range] at hF
                                                          go_wp2_with fail
                                                          refine hF.out.mono ?_
                                                          rintro e w55 ⟨rfl, X55⟩
                                                          have E55 := hid (below_next E54.out X55.out)
                                                          have D55 := hid (B49.out.trans (E55.out.mono hz49))
                                                          clear hF LR3 X55
                                                          have hF := hid (flipped_yes (some ⟨p, 0, none⟩) b7 A0.length d7 ((List.range A0.length).map (fun (i : Nat) => (A7.getD i []).map flp ++ [(i : Int)])) A7 w55 (by simp; exact l0) l7 j7 (hid (fun i hi => grown_getD (by simpa using hi))) (hid (LRP.out.below E55.out)) (hid (G7.out.below D55.out)))
                                                          simp only [List.length_map, List.length_range] at hF
                                                          go_wp2_with fail
                                                          refine hF.out.mono ?_
                                                          rintro e w56 ⟨rfl, X56⟩
                                                          have E56 := hid (below_next E55.out X56.out)
                                                          have D56 := hid (B49.out.trans (E56.out.mono hz49))
                                                          clear hF LRP X56
                                                          as_aux_lemma =>
                                                            go_wp2_with fail
                                                            go_loopw [51] (fun i wr => ∃ k : Nat, k ≤ B8.length ∧ i = .int .i64 k ∧ Hid (Below w56.heap.size w56 wr)) (fun i _ => B8.length - (intOf i).toNat)
                                                            case atStart => exact ⟨0, Nat.zero_le _, rfl, Below.refl _ _⟩
                                                            case round =>
                                                              obtain ⟨k, hk, rfl, HB⟩ := hrel
                                                              have Ek := hid (below_next E56.out HB.out)
                                                              have Dk := hid (B49.out.trans (Ek.out.mono hz49))
                                                              by_cases hlt : k < B8.length
                                                              · obtain ⟨e6, hpa⟩ := PA49.out (by omega)
                                                                have q1 := hpa.2 k hlt
                                                                obtain ⟨b8c, off8, z, rfl, q2, _, _, _, HZ⟩ := G8.out.get Dk.out hlt
                                                                rw [if_pos hlt, HZ.out] at q1
                                                                have q1' := (Ek.out.cell (p := ⟨kb6, k, none⟩) (cell_lt' q1)).trans q1
                                                                have hzz : ((!z) != (!z)) = false := by simp
                                                                clear q1 hpa HZ
                                                                subst e6
                                                                as_aux_lemma =>
                                                                  go_wp2_with fail
                                                                  go_quiet (fail)
                                                                  go_wp2_with fail
                                                                  exact ⟨⟨k + 1, hlt, by simp, below_drewN HB.out _⟩, by simp [intOf]; omega⟩
                                                              · obtain ⟨w57, hw57⟩ : ∃ x, x = wr := ⟨_, rfl⟩
                                                                subst hw57
                                                                have E57 := Ek
                                                                have D57 := Dk
                                                                clear HB Ek Dk PA49 E51 D51 E52 D52 E53 D53 E54 D54 E55 D55 E56 D56 X52
                                                                have x8 := (row_below RC49.out E57.out).cell (i := 8) (by omega)
                                                                as_aux_lemma =>
                                                                  go_wp2_with fail
                                                                  refine (queued_any c (some ⟨q, 0, none⟩) A0.length A0.length w57 x8).mono ?_
                                                                  rintro e w58 ⟨rfl, X58⟩
                                                                  have E58 := hid (below_next E57.out X58.out)
                                                                  have x7 := (row_below RC49.out E58.out).cell (i := 7) (by omega)
                                                                  have hP := hid (pool_any c (some ⟨P, 0, none⟩) A0.length ((List.range A0.length).map (fun (j : Nat) => (j : Int) + 1)) w58 (by simp; omega) (by rw [List.length_map, List.length_range]; exact x7) (hid (row_succ (row_below RP49.out E58.out))))
                                                                  unfold RetRow at hP
                                                                  simp only [List.length_map, List.length_range] at hP
                                                                  clear x8 x7 X58
                                                                  go_wp2_with fail
                                                                  refine hP.out.mono ?_
                                                                  rintro e w59 ⟨⟨ap2, cp2, rfl, _, RPL, _, _⟩, X59⟩
                                                                  have E59 := hid (below_next E58.out X59.out)
                                                                  have RQ59 := hid (row_below RQ49.out E59.out)
                                                                  clear hP E58 X59
                                                                  as_aux_lemma =>
                                                                    go_wp2_with fail
                                                                    go_loopw [54] (fun i wr => ∃ k : Nat, k ≤ A0.length ∧ i = .int .i64 k ∧ wr = w59) (fun i _ => A0.length - (intOf i).toNat)
                                                                    case atStart => exact ⟨0, Nat.zero_le _, rfl, rfl⟩
                                                                    case round =>
                                                                      obtain ⟨k, hk, rfl, rfl⟩ := hrel
                                                                      by_cases hlt : k < A0.length
                                                                      · have z1 := RQ59.out.cell (i := k) hlt
                                                                        obtain ⟨bp, op, rfl, z2⟩ := IRow.at RPL.out (Below.refl _ _) (i := k) (by simpa using hlt)
                                                                        rw [succ_get hlt] at z2
                                                                        go_wp2_with fail
                                                                        exact ⟨⟨k + 1, hlt, by simp, by first | rfl | trivial⟩, by simp [intOf]; omega⟩
                                                                      · obtain ⟨w60, hw60⟩ : ∃ x, x = wr := ⟨_, rfl⟩
                                                                        subst hw60
                                                                        have E60 := E59
                                                                        have D60 := hid (B49.out.trans (E60.out.mono hz49))
                                                                        clear RPL RQ59 RQ49 RP49 E57 D57 E59
                                                                        have HM0 := hid (World.ownsMap_made w60 Try.prog 73 (plainElem (H := Unit) Try.prog 3))
                                                                        have HBM := hid ((Below.refl w60.heap.size w60).alloc (Nat.le_refl _) (.map #[] 0))
                                                                        have hmk := mk75
                                                                        have hz60 := D60.out.size
                                                                        as_aux_lemma =>
                                                                          go_wp2_with fail
                                                                          go_loopw [56] (fun i wr => ∃ (k : Nat) (D : DU), k ≤ K5.length ∧ i = .int .i64 k ∧ Hid (FM wr w60.heap.size k D) ∧ Hid (factsD (K5.drop k) (V6.drop k) D = D0) ∧ Hid (Below w60.heap.size w60 wr)) (fun i _ => K5.length - (intOf i).toNat)
                                                                          case atStart => exact ⟨0, .map [], Nat.zero_le _, rfl, HM0, hid HD0.out.symm, HBM⟩
                                                                          case round =>
                                                                            obtain ⟨k, D, hk, rfl, HF, HD, HBr⟩ := hrel
                                                                            have C := hid (D60.out.trans (HBr.out.mono hz60))
                                                                            by_cases hlt : k < K5.length
                                                                            · have hltv : k < V6.length := by rw [E56.out]; exact hlt
                                                                              obtain ⟨kb, ko, x, y, rfl, d1, d2, kl1, X1, X2⟩ := G5.out.get C.out hlt
                                                                              obtain ⟨vb, vo, z, rfl, d3, _, vl1, Y1, Y2⟩ := G6.out.get C.out hltv
                                                                              have hx := hwk.out (x, y) (mem_drop X1.out)
                                                                              have hz := hwv.out z (mem_drop Y1.out)
                                                                              have hkey := kl_ok hx
                                                                              have hval := plainElem_int (H := Unit) Try.underlying3 hz
                                                                              have HN := hid (show factsD (K5.drop (k + 1)) (V6.drop (k + 1)) (D.put (kl (x, y)) (.lit (.int .i64 z))) = D0 by rw [← factsD_step D X1.out Y1.out]; exact HD.out)
                                                                              have n1 : kb ≠ w60.heap.size := by omega
                                                                              have n2 : vb ≠ w60.heap.size := by omega
                                                                              clear X1 X2 Y1 Y2 HD
                                                                              unfold kv at hkey
                                                                              dsimp only at hkey
                                                                              obtain ⟨w10, hup, hown1, hgrow1⟩ := (show FM wr.drew w60.heap.size k D from HF.out).update keyed73 Try.underlying75 (by unfold maxLen; omega) hkey hval
                                                                              have HF1 := hid hown1
                                                                              have HBn : Hid (Below w60.heap.size w60 w10) := HBr.out.drew.grown hgrow1 (HBr.out.size) (fun i hi => by cases hi; exact Nat.le_refl _)
                                                                              clear hown1 hgrow1 hmk
                                                                              as_aux_lemma =>
                                                                                go_wp2_with fail
                                                                                go_region
                                                                                go_wp2_with fail
                                                                                exact ⟨⟨k + 1, _, hlt, by simp, HF1, HN, HBn⟩, by simp [intOf]; omega⟩
                                                                            · have HDF := hid (show D = D0 by
                                                                                have := HD.out
                                                                                rw [List.drop_of_length_le (by omega), List.drop_of_length_le (by rw [E56.out]; omega)] at this
                                                                                rw [show factsD [] [] D = D from by unfold factsD; rfl] at this
                                                                                exact this)
                                                                              obtain ⟨w61, hw61⟩ : ∃ x, x = wr := ⟨_, rfl⟩
                                                                              subst hw61
                                                                              have FW : Hid (FM w61 w60.heap.size k D0) := by rw [← HDF.out]; exact HF.out
                                                                              have E61 := hid (below_next E60.out HBr.out)
                                                                              have x4 := (row_below RC49.out E61.out).cell (i := 4) (by omega)
                                                                              have HIS : Hid (Maps.IsMap D0) := by obtain ⟨es, he, _⟩ := FW.out.canon keyed73; exact ⟨es, he⟩
                                                                              have HSE : Hid (Maps.size (factsD K5 (V6.map flp) D0) = Maps.size D0) := factsD_size K5 _ D0 (FW.out.tidy keyed73) hwk.out (fun x hx => by rw [HD0.out]; exact factsD_has K5 V6 (.map []) E56.out.symm ⟨[], rfl⟩ hwk.out x (.inl hx))
                                                                              have hFL := hid (factsLen_any c F nF4 _ w61 x4 (hid (FM49.out.below E61.out)))
                                                                              rw [HSE.out] at hFL
                                                                              clear HF HD hk HDF x4 HSE
                                                                              as_aux_lemma =>
                                                                                go_wp2_with fail
                                                                                refine hFL.out.mono ?_
                                                                                rintro e w62 ⟨rfl, X62⟩
                                                                                have E62 := hid (below_next E61.out X62.out)
                                                                                have FW62 := hid (FW.out.below X62.out)
                                                                                have hlen := FW62.out.len Try.underlying75
                                                                                clear hFL FW
                                                                                go_wp2_with fail
                                                                                go_loopw [57] (fun i wr => ∃ k : Nat, k ≤ K5.length ∧ i = .int .i64 k ∧ Hid (Below w62.heap.size w62 wr)) (fun i _ => K5.length - (intOf i).toNat)
                                                                                case atStart => exact ⟨0, Nat.zero_le _, rfl, Below.refl _ _⟩
                                                                                case round =>
                                                                                  clear hlen
                                                                                  obtain ⟨k, hk, rfl, HBk⟩ := hrel
                                                                                  have Ek := hid (below_next E62.out HBk.out)
                                                                                  have Dk := hid (B49.out.trans (Ek.out.mono hz49))
                                                                                  by_cases hlt : k < K5.length
                                                                                  · obtain ⟨kb, ko, x, y, rfl, d1, d2, kl1, X1, _⟩ := G5.out.get Dk.out hlt
                                                                                    have hxm := mem_drop X1.out
                                                                                    have hx := hwk.out (x, y) hxm
                                                                                    have hkey := kl_ok hx
                                                                                    have hhas : Maps.has (factsD K5 (V6.map flp) D0) (kl (x, y)) = true := factsD_has K5 (V6.map flp) D0 (by rw [List.length_map]; exact E56.out.symm) HIS.out hwk.out (x, y) (.inl hxm)
                                                                                    have x4 := (row_below RC49.out Ek.out).cell (i := 4) (by omega)
                                                                                    obtain ⟨cv, ha1, ha2⟩ := factsD_flip K5 V6 (.map []) D0 E56.out.symm ⟨[], rfl⟩ HIS.out hwk.out (kl (x, y)) ⟨(x, y), hxm, rfl⟩ (.lit (.int .i64 0))
                                                                                    rw [← HD0.out] at ha1
                                                                                    have HA1 := hid ha1
                                                                                    have HA2 := hid ha2
                                                                                    have cf := fact_any c F nF4 _ (x, y) wr hx x4 (hid (FM49.out.below Ek.out))
                                                                                    rw [hhas] at cf
                                                                                    unfold kv at cf hkey
                                                                                    dsimp only at cf hkey
                                                                                    have lk1 := hid (cell_lt' d1)
                                                                                    have CF := hid cf
                                                                                    have HKey := hid hkey
                                                                                    clear cf X1 ha1 ha2 x4 hhas hkey hx hxm
                                                                                    as_aux_lemma =>
                                                                                      go_wp2_with fail
                                                                                      refine CF.out.mono ?_
                                                                                      rintro e w13 ⟨⟨cg, rfl, HC1⟩, X13⟩
                                                                                      have F13 := hid (below_next HBk.out X13.out)
                                                                                      have f1 := (X13.out.cell (p := ⟨kb, ko + k * 2, none⟩) lk1.out).trans d1
                                                                                      have f2 := (X13.out.cell (p := ⟨kb, ko + k * 2 + 1, none⟩) lk1.out).trans d2
                                                                                      obtain ⟨c', hrun, hat, _⟩ := (FW62.out.below F13.out).lookup_int keyed73 Try.underlying75 Try.underlying3 (zero3 w13) HKey.out
                                                                                      obtain rfl : c' = cv := by have := hat.symm.trans HA1.out; simp only [DataW.lit.injEq, Lit.int.injEq, true_and] at this; exact this
                                                                                      obtain rfl : cg = flp c' := by have := HC1.out.symm.trans HA2.out; simp only [DataW.lit.injEq, Lit.int.injEq, true_and] at this; exact this
                                                                                      clear hat HC1 CF HA1 HA2 HKey
                                                                                      unfold flp
                                                                                      go_wp2_with fail
                                                                                      exact ⟨⟨k + 1, hlt, by simp, F13⟩, by simp [intOf]; omega⟩
                                                                                  · obtain ⟨w63, hw63⟩ : ∃ x, x = wr := ⟨_, rfl⟩
                                                                                    subst hw63
                                                                                    have D63 := Dk
                                                                                    clear HBk Ek Dk E62 E61 FW62 FM49 RC49 E60 D60 HIS
                                                                                    rw [HD0.out] at GG
                                                                                    have hMt := hid (matches_yes holdsC gb b0 b1 b2 b3 b4 b5 b6 b7 b8 d0 d1 d2 d3 d4 d5 d6 d7 d8 (zipL A0 A1) A0 A1 A2 A3 A4 A7 A7 K5 V6 B8 w63 (hid (zipL_fst E01.out ER.out)) (hid (zipL_snd E01.out ER.out)) l0 l1 l2 l3 l4 l7 l5 l6 l7 l8 (hid (fun i => Nat.le_trans (zipL_get_le E01.out i) t0.out)) s0 s1 s2 s3 s4 s7 (Nat.le_refl _) (hid (fun _ => rfl)) E56 hwk hwv (hid (GG.out.below D63.out)) (hid (G0.out.below D63.out)) (hid (G1.out.below D63.out)) (hid (G2.out.below D63.out)) (hid (G3.out.below D63.out)) (hid (G4.out.below D63.out)) (hid (G5.out.below D63.out)) (hid (G6.out.below D63.out)) (hid (G7.out.below D63.out)) (hid (G8.out.below D63.out)))
                                                                                    as_aux_lemma =>
                                                                                      go_wp2_with fail
                                                                                      refine hMt.out.mono ?_
                                                                                      rintro e w64 ⟨rfl, X64⟩
                                                                                      have D64 := hid (below_next D63.out X64.out)
                                                                                      have g7 := (row_below RG.out D64.out).cell (i := 7) (by omega)
                                                                                      clear hMt
                                                                                      go_wp2_with fail
                                                                                      refine (pool_any gb pp pc P9 w64 (by omega) g7 (hid (RPg.out.below D64.out))).mono ?_
                                                                                      rintro e w65 ⟨⟨ag, cg, rfl, _, RGP9, _, _⟩, X65⟩
                                                                                      have D65 := hid (below_next D64.out X65.out)
                                                                                      clear g7
                                                                                      go_wp2_with fail
                                                                                      refine (sameI64_yes ag b9 cg d9 P9 w65 (by omega) RGP9 (hid (G9.out.below D65.out))).mono ?_
                                                                                      rintro e w66 ⟨rfl, X66⟩
                                                                                      have D66 := hid (below_next D65.out X66.out)
                                                                                      have g8 := (row_below RG.out D66.out).cell (i := 8) (by omega)
                                                                                      go_wp2_with fail
                                                                                      refine (queued_any gb p10 Q10.length q10 w66 g8).mono ?_
                                                                                      rintro e w67 ⟨rfl, X67⟩
                                                                                      have D67 := hid (below_next D66.out X67.out)
                                                                                      clear g8
                                                                                      go_wp2_with fail
                                                                                      refine (sameBools_yes p10 b10 q10 d10 Q10 w67 (by omega) (hid (GQ.out.below D67.out)) (hid (G10.out.below D67.out))).mono ?_
                                                                                      rintro e w68 ⟨rfl, X68⟩
                                                                                      have D68 := hid (below_next D67.out X68.out)
                                                                                      have g9 := (row_below RG.out D68.out).cell (i := 9) (by omega)
                                                                                      go_wp2_with fail
                                                                                      refine (reached_nil gb w68 g9).mono ?_
                                                                                      rintro e w69 ⟨rfl, X69⟩
                                                                                      have D69 := hid (below_next DW.out (below_next D68.out X69.out))
                                                                                      go_wp2_with fail
                                                                                      go_ret
                                                                                      exact ⟨rfl, D69⟩
end Go.Proofs.Qxb6605294a
