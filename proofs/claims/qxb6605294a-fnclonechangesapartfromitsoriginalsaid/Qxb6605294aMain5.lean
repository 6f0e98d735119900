import Derived.Test.Qxb6605294aMain2
set_option maxRecDepth 100000
namespace Go.Proofs.Qxb6605294a
open Go.ChangeShapes Go.WideShapes Go.ChangeAt Go.RowKit
set_option linter.unusedVariables false

theorem pool_zero (c P n : Nat) (w : World) (hn : n ≤ 100000000) (hc : w.cell? ⟨c, 7, none⟩ = some (.slice (some ⟨P, 0, none⟩) n n)) (hr : Hid (w.rowIs P 100 n (fun _ => .int .i64 0))) :
    Calls Try.prog 37 #[.pointer (some ⟨c, 0, none⟩)] w fun e w' => (∃ a cc, e = .returned (.slice a n cc) ∧ Hid (IRow w' a (List.replicate n 0))) ∧ Hid (Below w.heap.size w w') := by
  refine (pool_any c (some ⟨P, 0, none⟩) n (List.replicate n 0) w (by simpa using hn) (by rw [List.length_replicate]; exact hc) (hid (row_rep hr.out))).mono ?_
  rintro e w' ⟨⟨a, cc, rfl, _, h, _, _⟩, hB⟩
  exact ⟨⟨a, cc, by rw [List.length_replicate], h⟩, hB⟩
theorem rep_get {w : World} {a : Option Addr} {n k : Nat} (h : IRow w a (List.replicate n 0)) (hk : k < n) : ∃ b off, a = some ⟨b, off, none⟩ ∧ w.cell? ⟨b, off + k, none⟩ = some (.int .i64 0) := by
  obtain ⟨b, off, e, hc⟩ := h (by simp; omega)
  refine ⟨b, off, e, ?_⟩
  have := hc k (by simpa using hk)
  rw [List.getD_eq_getElem?_getD, List.getElem?_replicate_of_lt hk] at this
  exact this
set_option maxHeartbeats 8000000 in
theorem main5 (a0 : Option Addr) (c0 : Nat) (A0 : List (List Int)) (a1 : Option Addr) (c1 : Nat) (A1 : List (List Int)) (a2 : Option Addr) (c2 : Nat) (A2 : List (List Int)) (a3 : Option Addr) (c3 : Nat) (A3 : List (List Int)) (a4 : Option Addr) (c4 : Nat) (A4 : List (List Int)) (a5 : Option Addr) (c5 : Nat) (K5 : List (Int × Int)) (a6 : Option Addr) (c6 : Nat) (V6 : List Int) (a7 : Option Addr) (c7 : Nat) (A7 : List (List Int)) (a8 : Option Addr) (c8 : Nat) (B8 : List Bool) (a9 : Option Addr) (c9 : Nat) (P9 : List Int) (a10 : Option Addr) (c10 : Nat) (Q10 : List Bool) (w : World) (m0 : A0.length ≤ 9223372036854775807) (m1 : A1.length ≤ 9223372036854775807) (m2 : A2.length ≤ 9223372036854775807) (m3 : A3.length ≤ 9223372036854775807) (m4 : A4.length ≤ 9223372036854775807) (m5 : K5.length ≤ 9223372036854775807) (m6 : V6.length ≤ 9223372036854775807) (m7 : A7.length ≤ 9223372036854775807) (m8 : B8.length ≤ 9223372036854775807) (m9 : P9.length ≤ 9223372036854775807) (m10 : Q10.length ≤ 9223372036854775807) (I0 : Hid (∀ i, (A0.getD i []).length ≤ 9223372036854775807)) (I1 : Hid (∀ i, (A1.getD i []).length ≤ 9223372036854775807)) (I2 : Hid (∀ i, (A2.getD i []).length ≤ 9223372036854775807)) (I3 : Hid (∀ i, (A3.getD i []).length ≤ 9223372036854775807)) (I4 : Hid (∀ i, (A4.getD i []).length ≤ 9223372036854775807)) (I7 : Hid (∀ i, (A7.getD i []).length ≤ 9223372036854775807)) (H0 : Hid (LRow w a0 A0)) (H1 : Hid (LRow w a1 A1)) (H2 : Hid (LRow w a2 A2)) (H3 : Hid (LRow w a3 A3)) (H4 : Hid (LRow w a4 A4)) (H5 : Hid (PairRow w a5 K5)) (H6 : Hid (IRow w a6 V6)) (H7 : Hid (LRow w a7 A7)) (H8 : Hid (Row Value.bool false w a8 B8)) (H9 : Hid (IRow w a9 P9)) (H10 : Hid (Row Value.bool false w a10 Q10)) (N0 : Hid (a0 = none → A0 = [] ∧ c0 = 0)) (N1 : Hid (a1 = none → A1 = [] ∧ c1 = 0)) (N2 : Hid (a2 = none → A2 = [] ∧ c2 = 0)) (N3 : Hid (a3 = none → A3 = [] ∧ c3 = 0)) (N4 : Hid (a4 = none → A4 = [] ∧ c4 = 0)) (N5 : Hid (a5 = none → K5 = [] ∧ c5 = 0)) (N6 : Hid (a6 = none → V6 = [] ∧ c6 = 0)) (N7 : Hid (a7 = none → A7 = [] ∧ c7 = 0)) (N8 : Hid (a8 = none → B8 = [] ∧ c8 = 0)) (N9 : Hid (a9 = none → P9 = [] ∧ c9 = 0)) (N10 : Hid (a10 = none → Q10 = [] ∧ c10 = 0)) (hwk : Hid (∀ k ∈ K5, wfK k)) (hwv : Hid (∀ v ∈ V6, (Lit.int .i64 v).wf = true)) :
    Calls Try.prog 5 #[.slice a0 A0.length c0, .slice a1 A1.length c1, .slice a2 A2.length c2, .slice a3 A3.length c3, .slice a4 A4.length c4, .slice a5 K5.length c5, .slice a6 V6.length c6, .slice a7 A7.length c7, .slice a8 B8.length c8, .slice a9 P9.length c9, .slice a10 Q10.length c10] w fun e w' => e = .returned (.bool true) ∧ Hid (Below w.heap.size w w') := by
  go_enter Try.func5, Try.ntmps5
  go_wp2_with fail
  refine (zz_any a0 c0 A0 a1 c1 A1 a2 c2 A2 a3 c3 A3 a4 c4 A4 a5 c5 K5 a6 c6 V6 a7 c7 A7 a8 c8 B8 a9 c9 P9 a10 c10 Q10 w m0 m1 m2 m3 m4 m5 m6 m7 m8 m9 m10 H0 I0 H1 I1 H2 I2 H3 I3 H4 I4 H7 I7).mono ?_
  rintro e w1 ⟨⟨b, rfl, hz⟩, T1⟩
  cases b with
  | false =>
    go_wp2_with fail
    go_ret
    exact ⟨rfl, T1⟩
  | true =>
    have hN := hz.out rfl
    have l0 : A0.length ≤ 1048576 := by omega
    have l1 : A1.length ≤ 1048576 := by omega
    have l2 : A2.length ≤ 1048576 := by omega
    have l3 : A3.length ≤ 1048576 := by omega
    have l4 : A4.length ≤ 1048576 := by omega
    have l5 : K5.length ≤ 1048576 := by omega
    have l6 : V6.length ≤ 1048576 := by omega
    have l7 : A7.length ≤ 1048576 := by omega
    have l8 : B8.length ≤ 1048576 := by omega
    have l9 : P9.length ≤ 1048576 := by omega
    have l10 : Q10.length ≤ 1048576 := by omega
    have t0 : Hid (tot A0 ≤ 1048576) := by show _ ≤ _; omega
    have j0 : Hid (∀ i, (A0.getD i []).length ≤ 1048576) := fun i => Nat.le_trans (get_tot _ i) t0.out
    have s0 : Hid (∀ i, (A0.getD i []).length ≤ 100000000) := fun i => Nat.le_trans (j0.out i) (by omega)
    have t1 : Hid (tot A1 ≤ 1048576) := by show _ ≤ _; omega
    have j1 : Hid (∀ i, (A1.getD i []).length ≤ 1048576) := fun i => Nat.le_trans (get_tot _ i) t1.out
    have s1 : Hid (∀ i, (A1.getD i []).length ≤ 100000000) := fun i => Nat.le_trans (j1.out i) (by omega)
    have t2 : Hid (tot A2 ≤ 1048576) := by show _ ≤ _; omega
    have j2 : Hid (∀ i, (A2.getD i []).length ≤ 1048576) := fun i => Nat.le_trans (get_tot _ i) t2.out
    have s2 : Hid (∀ i, (A2.getD i []).length ≤ 100000000) := fun i => Nat.le_trans (j2.out i) (by omega)
    have t3 : Hid (tot A3 ≤ 1048576) := by show _ ≤ _; omega
    have j3 : Hid (∀ i, (A3.getD i []).length ≤ 1048576) := fun i => Nat.le_trans (get_tot _ i) t3.out
    have s3 : Hid (∀ i, (A3.getD i []).length ≤ 100000000) := fun i => Nat.le_trans (j3.out i) (by omega)
    have t4 : Hid (tot A4 ≤ 1048576) := by show _ ≤ _; omega
    have j4 : Hid (∀ i, (A4.getD i []).length ≤ 1048576) := fun i => Nat.le_trans (get_tot _ i) t4.out
    have s4 : Hid (∀ i, (A4.getD i []).length ≤ 100000000) := fun i => Nat.le_trans (j4.out i) (by omega)
    have t7 : Hid (tot A7 ≤ 1048576) := by show _ ≤ _; omega
    have j7 : Hid (∀ i, (A7.getD i []).length ≤ 1048576) := fun i => Nat.le_trans (get_tot _ i) t7.out
    have s7 : Hid (∀ i, (A7.getD i []).length ≤ 100000000) := fun i => Nat.le_trans (j7.out i) (by omega)
    clear hz hN m0 m1 m2 m3 m4 m5 m6 m7 m8 m9 m10 I0 I1 I2 I3 I4 I7
    go_wp2_with fail
    refine (graphBytes_any a0 c0 A0 a1 c1 A1 a2 c2 A2 a3 c3 A3 a4 c4 A4 a5 c5 K5 a6 c6 V6 a7 c7 A7 a8 c8 B8 a9 c9 P9 a10 c10 Q10 w1 l0 l1 l2 l3 l4 l5 l6 l7 l8 l9 l10 (hid (H0.out.below T1.out)) (hid (H1.out.below T1.out)) (hid (H2.out.below T1.out)) (hid (H3.out.below T1.out)) (hid (H4.out.below T1.out)) (hid (H7.out.below T1.out))).mono ?_
    rintro e w2 ⟨⟨nn, rfl⟩, T2⟩
    by_cases hgt : (1048576 : Int) < nn
    · go_wp2_with fail
      go_ret
      exact ⟨rfl, (below_next T1.out T2.out)⟩
    · go_wp2_with fail
      refine (wellFormed_any a0 a1 a5 a6 a7 c0 c1 c5 c6 c7 A0 A1 K5 V6 A7 w2 l0 l1 l5 l6 l7 (hid (H0.out.below (below_next T1.out T2.out))) (hid (H1.out.below (below_next T1.out T2.out)))).mono ?_
      rintro e w3 ⟨⟨b, rfl, hw⟩, T3⟩
      cases b with
      | false =>
        go_wp2_with fail
        go_ret
        exact ⟨rfl, (below_next (below_next T1.out T2.out) T3.out)⟩
      | true =>
        obtain ⟨e01, e56, l70, er⟩ := hw.out rfl
        have E01 := hid e01
        have E56 := hid e56
        have ER := hid er
        clear hw e01 e56 er hgt
        go_wp2_with fail
        refine (copyLists_any a0 c0 A0 w3 (by omega) s0 (hid (H0.out.below (below_next (below_next T1.out T2.out) T3.out))) N0).mono ?_
        rintro e w4 ⟨⟨b0, d0, rfl, F0, M0, _⟩, T4⟩
        go_wp2_with fail
        refine (copyL64_any a1 c1 A1 w4 (by omega) s1 (hid (H1.out.below (below_next (below_next (below_next T1.out T2.out) T3.out) T4.out))) N1).mono ?_
        rintro e w5 ⟨⟨b1, d1, rfl, F1, M1, _⟩, T5⟩
        go_wp2_with fail
        refine (copyLists_any a2 c2 A2 w5 (by omega) s2 (hid (H2.out.below (below_next (below_next (below_next (below_next T1.out T2.out) T3.out) T4.out) T5.out))) N2).mono ?_
        rintro e w6 ⟨⟨b2, d2, rfl, F2, M2, _⟩, T6⟩
        go_wp2_with fail
        refine (copyLists_any a3 c3 A3 w6 (by omega) s3 (hid (H3.out.below (below_next (below_next (below_next (below_next (below_next T1.out T2.out) T3.out) T4.out) T5.out) T6.out))) N3).mono ?_
        rintro e w7 ⟨⟨b3, d3, rfl, F3, M3, _⟩, T7⟩
        go_wp2_with fail
        refine (copyLists_any a4 c4 A4 w7 (by omega) s4 (hid (H4.out.below (below_next (below_next (below_next (below_next (below_next (below_next T1.out T2.out) T3.out) T4.out) T5.out) T6.out) T7.out))) N4).mono ?_
        rintro e w8 ⟨⟨b4, d4, rfl, F4, M4, _⟩, T8⟩
        go_wp2_with fail
        refine (copyKeys_any a5 c5 K5 w8 (by omega) (hid (H5.out.below (below_next (below_next (below_next (below_next (below_next (below_next (below_next T1.out T2.out) T3.out) T4.out) T5.out) T6.out) T7.out) T8.out))) N5).mono ?_
        rintro e w9 ⟨⟨b5, d5, rfl, F5, M5, _⟩, T9⟩
        go_wp2_with fail
        refine (copyInts_any a6 c6 V6 w9 (by omega) (hid (H6.out.below (below_next (below_next (below_next (below_next (below_next (below_next (below_next (below_next T1.out T2.out) T3.out) T4.out) T5.out) T6.out) T7.out) T8.out) T9.out))) N6).mono ?_
        rintro e w10 ⟨⟨b6, d6, rfl, _, F6, M6, _⟩, T10⟩
        go_wp2_with fail
        refine (copyLists_any a7 c7 A7 w10 (by omega) s7 (hid (H7.out.below (below_next (below_next (below_next (below_next (below_next (below_next (below_next (below_next (below_next T1.out T2.out) T3.out) T4.out) T5.out) T6.out) T7.out) T8.out) T9.out) T10.out))) N7).mono ?_
        rintro e w11 ⟨⟨b7, d7, rfl, F7, M7, _⟩, T11⟩
        go_wp2_with fail
        refine (copyBools_any a8 c8 B8 w11 (by omega) (hid (H8.out.below (below_next (below_next (below_next (below_next (below_next (below_next (below_next (below_next (below_next (below_next T1.out T2.out) T3.out) T4.out) T5.out) T6.out) T7.out) T8.out) T9.out) T10.out) T11.out))) N8).mono ?_
        rintro e w12 ⟨⟨b8, d8, rfl, _, F8, M8, _⟩, T12⟩
        go_wp2_with fail
        refine (copyI64_any a9 c9 P9 w12 (by omega) (hid (H9.out.below (below_next (below_next (below_next (below_next (below_next (below_next (below_next (below_next (below_next (below_next (below_next T1.out T2.out) T3.out) T4.out) T5.out) T6.out) T7.out) T8.out) T9.out) T10.out) T11.out) T12.out))) N9).mono ?_
        rintro e w13 ⟨⟨b9, d9, rfl, _, F9, M9, _⟩, T13⟩
        go_wp2_with fail
        refine (copyBools_any a10 c10 Q10 w13 (by omega) (hid (H10.out.below (below_next (below_next (below_next (below_next (below_next (below_next (below_next (below_next (below_next (below_next (below_next (below_next T1.out T2.out) T3.out) T4.out) T5.out) T6.out) T7.out) T8.out) T9.out) T10.out) T11.out) T12.out) T13.out))) N10).mono ?_
        rintro e w14 ⟨⟨b10, d10, rfl, _, F10, M10, _⟩, T14⟩
        go_wp2_with fail
        refine (copyLists_any b0 d0 A0 w14 (by omega) s0 (hid (F0.out.below (below_next (below_next (below_next (below_next (below_next (below_next (below_next (below_next (below_next T5.out T6.out) T7.out) T8.out) T9.out) T10.out) T11.out) T12.out) T13.out) T14.out))) M0).mono ?_
        rintro e w15 ⟨⟨p0, q0, rfl, X0, Y0, _⟩, T15⟩
        go_wp2_with fail
        refine (copyL64_any b1 d1 A1 w15 (by omega) s1 (hid (F1.out.below (below_next (below_next (below_next (below_next (below_next (below_next (below_next (below_next (below_next T6.out T7.out) T8.out) T9.out) T10.out) T11.out) T12.out) T13.out) T14.out) T15.out))) M1).mono ?_
        rintro e w16 ⟨⟨p1, q1, rfl, X1, Y1, _⟩, T16⟩
        go_wp2_with fail
        refine (copyLists_any b2 d2 A2 w16 (by omega) s2 (hid (F2.out.below (below_next (below_next (below_next (below_next (below_next (below_next (below_next (below_next (below_next T7.out T8.out) T9.out) T10.out) T11.out) T12.out) T13.out) T14.out) T15.out) T16.out))) M2).mono ?_
        rintro e w17 ⟨⟨p2, q2, rfl, X2, Y2, _⟩, T17⟩
        go_wp2_with fail
        refine (copyLists_any b3 d3 A3 w17 (by omega) s3 (hid (F3.out.below (below_next (below_next (below_next (below_next (below_next (below_next (below_next (below_next (below_next T8.out T9.out) T10.out) T11.out) T12.out) T13.out) T14.out) T15.out) T16.out) T17.out))) M3).mono ?_
        rintro e w18 ⟨⟨p3, q3, rfl, X3, Y3, _⟩, T18⟩
        go_wp2_with fail
        refine (copyLists_any b4 d4 A4 w18 (by omega) s4 (hid (F4.out.below (below_next (below_next (below_next (below_next (below_next (below_next (below_next (below_next (below_next T9.out T10.out) T11.out) T12.out) T13.out) T14.out) T15.out) T16.out) T17.out) T18.out))) M4).mono ?_
        rintro e w19 ⟨⟨p4, q4, rfl, X4, Y4, _⟩, T19⟩
        go_wp2_with fail
        refine (copyKeys_any b5 d5 K5 w19 (by omega) (hid (F5.out.below (below_next (below_next (below_next (below_next (below_next (below_next (below_next (below_next (below_next T10.out T11.out) T12.out) T13.out) T14.out) T15.out) T16.out) T17.out) T18.out) T19.out))) M5).mono ?_
        rintro e w20 ⟨⟨p5, q5, rfl, X5, Y5, _⟩, T20⟩
        go_wp2_with fail
        refine (copyInts_any b6 d6 V6 w20 (by omega) (hid (F6.out.below (below_next (below_next (below_next (below_next (below_next (below_next (below_next (below_next (below_next T11.out T12.out) T13.out) T14.out) T15.out) T16.out) T17.out) T18.out) T19.out) T20.out))) M6).mono ?_
        rintro e w21 ⟨⟨p6, q6, rfl, _, X6, Y6, _⟩, T21⟩
        go_wp2_with fail
        refine (copyLists_any b7 d7 A7 w21 (by omega) s7 (hid (F7.out.below (below_next (below_next (below_next (below_next (below_next (below_next (below_next (below_next (below_next T12.out T13.out) T14.out) T15.out) T16.out) T17.out) T18.out) T19.out) T20.out) T21.out))) M7).mono ?_
        rintro e w22 ⟨⟨p7, q7, rfl, X7, Y7, _⟩, T22⟩
        go_wp2_with fail
        refine (copyBools_any b8 d8 B8 w22 (by omega) (hid (F8.out.below (below_next (below_next (below_next (below_next (below_next (below_next (below_next (below_next (below_next T13.out T14.out) T15.out) T16.out) T17.out) T18.out) T19.out) T20.out) T21.out) T22.out))) M8).mono ?_
        rintro e w23 ⟨⟨p8, q8, rfl, _, X8, Y8, _⟩, T23⟩
        go_wp2_with fail
        refine (copyI64_any b9 d9 P9 w23 (by omega) (hid (F9.out.below (below_next (below_next (below_next (below_next (below_next (below_next (below_next (below_next (below_next T14.out T15.out) T16.out) T17.out) T18.out) T19.out) T20.out) T21.out) T22.out) T23.out))) M9).mono ?_
        rintro e w24 ⟨⟨p9, q9, rfl, _, X9, Y9, _⟩, T24⟩
        go_wp2_with fail
        refine (copyBools_any b10 d10 Q10 w24 (by omega) (hid (F10.out.below (below_next (below_next (below_next (below_next (below_next (below_next (below_next (below_next (below_next T15.out T16.out) T17.out) T18.out) T19.out) T20.out) T21.out) T22.out) T23.out) T24.out))) M10).mono ?_
        rintro e w25 ⟨⟨p10, q10, rfl, _, X10, Y10, _⟩, T25⟩
        go_wp2_with fail
        refine (newGraph_any p0 p1 p5 p6 p9 q0 q1 q5 q6 q9 A0 A1 K5 V6 P9 p2 p3 p4 p7 p8 p10 A2.length q2 A3.length q3 A4.length q4 A7.length q7 B8.length q8 Q10.length q10 w25 l0 l5 l9 j0 E01 E56 ER hwk hwv (hid (X0.out.below (below_next (below_next (below_next (below_next (below_next (below_next (below_next (below_next (below_next T16.out T17.out) T18.out) T19.out) T20.out) T21.out) T22.out) T23.out) T24.out) T25.out))) (hid (X1.out.below (below_next (below_next (below_next (below_next (below_next (below_next (below_next (below_next T17.out T18.out) T19.out) T20.out) T21.out) T22.out) T23.out) T24.out) T25.out))) (hid (X5.out.below (below_next (below_next (below_next (below_next T21.out T22.out) T23.out) T24.out) T25.out))) (hid (X6.out.below (below_next (below_next (below_next T22.out T23.out) T24.out) T25.out))) (hid (X9.out.below T25.out))).mono ?_
        rintro e w26 ⟨⟨gb, hh, fb, pp, pc, rfl, RG, RH, RF, _⟩, T26⟩
        have g0 := RG.out.cell (i := 0) (by omega)
        have g1 := RG.out.cell (i := 1) (by omega)
        have g2 := RG.out.cell (i := 2) (by omega)
        have g3 := RG.out.cell (i := 3) (by omega)
        have g4 := RG.out.cell (i := 4) (by omega)
        have g5 := RG.out.cell (i := 5) (by omega)
        have g6 := RG.out.cell (i := 6) (by omega)
        go_wp2_with fail
        refine (zzClone_any gb A0.length fb K5.length (factsD K5 V6 (.map [])) hh p2 p3 p4 p7 p8 A0.length q2 q3 q4 q7 q8 (zipL A0 A1) A2 A3 A4 A7 B8 w26 l0 l8 l5 l2 l3 l4 l70 (by rw [zipL_flat E01.out ER.out]; exact t0.out) (by rw [tot_flat]; exact t2.out) (by rw [tot_flat]; exact t3.out) (by rw [tot_flat]; exact t4.out) j7 (hid (zipL_len E01.out).symm) g0 g1 g2 g3 g4 g5 g6 RH (hid (X2.out.below (below_next (below_next (below_next (below_next (below_next (below_next (below_next (below_next T18.out T19.out) T20.out) T21.out) T22.out) T23.out) T24.out) T25.out) T26.out))) (hid (X3.out.below (below_next (below_next (below_next (below_next (below_next (below_next (below_next T19.out T20.out) T21.out) T22.out) T23.out) T24.out) T25.out) T26.out))) (hid (X4.out.below (below_next (below_next (below_next (below_next (below_next (below_next T20.out T21.out) T22.out) T23.out) T24.out) T25.out) T26.out))) RF (hid (X7.out.below (below_next (below_next (below_next T23.out T24.out) T25.out) T26.out))) (hid (X8.out.below (below_next (below_next T24.out T25.out) T26.out))) Y8).mono ?_
        rintro e w27 ⟨⟨c, rfl, hC⟩, T27⟩
        obtain ⟨h, F, p, P, q, rb, v6, u7, fh, fp, k, R1, R2, R3, f1, f2, f3, v1, v2, v3, S0, S1, S2, S3, S4, HC⟩ := hC.out
        rw [zipL_len E01.out] at HC
        have GA := hid (HC.gat (zipL_len E01.out).symm l70)
        have RC := hid HC.rc
        have RP := hid HC.bun.rP
        have RQ := hid HC.bun.rq
        obtain ⟨ab, _, _, rr1, rr2⟩ := HC.bun.rr
        have RR := hid rr1
        have RA := hid rr2
        clear HC hC rr1 rr2 RG RH RF g0 g1 g2 g3 g4 g5 g6
        have hMt := hid (matches_yes holdsC c b0 b1 b2 b3 b4 b5 b6 b7 b8 d0 d1 d2 d3 d4 d5 d6 d7 d8 (zipL A0 A1) A0 A1 A2 A3 A4 (pad A0.length A7) A7 K5 V6 B8 w27 (hid (zipL_fst E01.out ER.out)) (hid (zipL_snd E01.out ER.out)) l0 l1 l2 l3 l4 (by rw [pad_len]; exact l0) l5 l6 l7 l8 (hid (fun i => Nat.le_trans (zipL_get_le E01.out i) t0.out)) s0 s1 s2 s3 s4 s7 (by rw [pad_len]; exact l70) (hid (pad_get l70)) E56 hwk hwv GA (hid (F0.out.below (below_next (below_next (below_next (below_next (below_next (below_next (below_next (below_next (below_next (below_next (below_next (below_next (below_next (below_next (below_next (below_next (below_next (below_next (below_next (below_next (below_next (below_next T5.out T6.out) T7.out) T8.out) T9.out) T10.out) T11.out) T12.out) T13.out) T14.out) T15.out) T16.out) T17.out) T18.out) T19.out) T20.out) T21.out) T22.out) T23.out) T24.out) T25.out) T26.out) T27.out))) (hid (F1.out.below (below_next (below_next (below_next (below_next (below_next (below_next (below_next (below_next (below_next (below_next (below_next (below_next (below_next (below_next (below_next (below_next (below_next (below_next (below_next (below_next (below_next T6.out T7.out) T8.out) T9.out) T10.out) T11.out) T12.out) T13.out) T14.out) T15.out) T16.out) T17.out) T18.out) T19.out) T20.out) T21.out) T22.out) T23.out) T24.out) T25.out) T26.out) T27.out))) (hid (F2.out.below (below_next (below_next (below_next (below_next (below_next (below_next (below_next (below_next (below_next (below_next (below_next (below_next (below_next (below_next (below_next (below_next (below_next (below_next (below_next (below_next T7.out T8.out) T9.out) T10.out) T11.out) T12.out) T13.out) T14.out) T15.out) T16.out) T17.out) T18.out) T19.out) T20.out) T21.out) T22.out) T23.out) T24.out) T25.out) T26.out) T27.out))) (hid (F3.out.below (below_next (below_next (below_next (below_next (below_next (below_next (below_next (below_next (below_next (below_next (below_next (below_next (below_next (below_next (below_next (below_next (below_next (below_next (below_next T8.out T9.out) T10.out) T11.out) T12.out) T13.out) T14.out) T15.out) T16.out) T17.out) T18.out) T19.out) T20.out) T21.out) T22.out) T23.out) T24.out) T25.out) T26.out) T27.out))) (hid (F4.out.below (below_next (below_next (below_next (below_next (below_next (below_next (below_next (below_next (below_next (below_next (below_next (below_next (below_next (below_next (below_next (below_next (below_next (below_next T9.out T10.out) T11.out) T12.out) T13.out) T14.out) T15.out) T16.out) T17.out) T18.out) T19.out) T20.out) T21.out) T22.out) T23.out) T24.out) T25.out) T26.out) T27.out))) (hid (F5.out.below (below_next (below_next (below_next (below_next (below_next (below_next (below_next (below_next (below_next (below_next (below_next (below_next (below_next (below_next (below_next (below_next (below_next T10.out T11.out) T12.out) T13.out) T14.out) T15.out) T16.out) T17.out) T18.out) T19.out) T20.out) T21.out) T22.out) T23.out) T24.out) T25.out) T26.out) T27.out))) (hid (F6.out.below (below_next (below_next (below_next (below_next (below_next (below_next (below_next (below_next (below_next (below_next (below_next (below_next (below_next (below_next (below_next (below_next T11.out T12.out) T13.out) T14.out) T15.out) T16.out) T17.out) T18.out) T19.out) T20.out) T21.out) T22.out) T23.out) T24.out) T25.out) T26.out) T27.out))) (hid (F7.out.below (below_next (below_next (below_next (below_next (below_next (below_next (below_next (below_next (below_next (below_next (below_next (below_next (below_next (below_next (below_next T12.out T13.out) T14.out) T15.out) T16.out) T17.out) T18.out) T19.out) T20.out) T21.out) T22.out) T23.out) T24.out) T25.out) T26.out) T27.out))) (hid (F8.out.below (below_next (below_next (below_next (below_next (below_next (below_next (below_next (below_next (below_next (below_next (below_next (below_next (below_next (below_next T13.out T14.out) T15.out) T16.out) T17.out) T18.out) T19.out) T20.out) T21.out) T22.out) T23.out) T24.out) T25.out) T26.out) T27.out))))
        rw [pad_len] at hMt
        clear GA F0 M0 X0 Y0 H0 N0 F1 M1 X1 Y1 H1 N1 F2 M2 X2 Y2 H2 N2 F3 M3 X3 Y3 H3 N3 F4 M4 X4 Y4 H4 N4 F5 M5 X5 Y5 H5 N5 F6 M6 X6 Y6 H6 N6 F7 M7 X7 Y7 H7 N7 F8 M8 X8 Y8 H8 N8 F9 M9 X9 Y9 H9 N9 F10 M10 X10 Y10 H10 N10 hwk hwv
        have DW : Hid (Below w.heap.size w w27) := (below_next (below_next (below_next (below_next (below_next (below_next (below_next (below_next (below_next (below_next (below_next (below_next (below_next (below_next (below_next (below_next (below_next (below_next (below_next (below_next (below_next (below_next (below_next (below_next (below_next (below_next T1.out T2.out) T3.out) T4.out) T5.out) T6.out) T7.out) T8.out) T9.out) T10.out) T11.out) T12.out) T13.out) T14.out) T15.out) T16.out) T17.out) T18.out) T19.out) T20.out) T21.out) T22.out) T23.out) T24.out) T25.out) T26.out) T27.out)
        clear T1 T2 T3 T4 T5 T6 T7 T8 T9 T10 T11 T12 T13 T14 T15 T16 T17 T18 T19 T20 T21 T22 T23 T24 T25 T26 T27
        go_wp2_with fail
        refine hMt.out.mono ?_
        rintro e w28 ⟨rfl, T28⟩
        have DW1 := hid (below_next DW.out T28.out)
        have RC1 := hid (row_below RC.out T28.out)
        have x7 := RC1.out.cell (i := 7) (by omega)
        clear hMt
        go_wp2_with fail
        refine (pool_zero c P A0.length w28 (by omega) x7 (hid (row_below RP.out T28.out))).mono ?_
        rintro e w29 ⟨⟨ap, cp, rfl, HZ⟩, T29⟩
        have DW2 := hid (below_next DW1.out T29.out)
        have RC2 := hid (row_below RC1.out T29.out)
        have x8 := RC2.out.cell (i := 8) (by omega)
        clear RC1 x7
        go_wp2_with fail
        go_loopw [27] (fun i wr => ∃ k : Nat, k ≤ A0.length ∧ i = .int .i64 k ∧ wr = w29) (fun i _ => A0.length - (intOf i).toNat)
        case atStart => exact ⟨0, Nat.zero_le _, rfl, rfl⟩
        case round =>
          obtain ⟨k, hk, rfl, rfl⟩ := hrel
          by_cases hlt : k < A0.length
          · obtain ⟨b, off, rfl, z1⟩ := rep_get HZ.out hlt
            go_wp2_with fail
            go_roundw
            case rel => exact ⟨k + 1, hlt, by go_num, by first | rfl | trivial⟩
            case measure => simp [intOf]; omega
          · clear HZ
            go_wp2_with fail
            refine (queued_any c (some ⟨q, 0, none⟩) A0.length A0.length wr x8).mono ?_
            rintro e w30 ⟨rfl, T30⟩
            have RQ1 := hid (row_below (row_below (row_below RQ.out T28.out) T29.out) T30.out)
            have RC3 := hid (row_below RC2.out T30.out)
            have RR3 := hid (row_below (row_below (row_below RR.out T28.out) T29.out) T30.out)
            have RA3 := hid (row_below (row_below (row_below RA.out T28.out) T29.out) T30.out)
            have DW3 := hid (below_next DW2.out T30.out)
            clear RC2 x8 RQ RR RA
            go_wp2_with fail
            go_loopw [29] (fun i wr => ∃ k : Nat, k ≤ A0.length ∧ i = .int .i64 k ∧ wr = w30) (fun i _ => A0.length - (intOf i).toNat)
            case atStart => exact ⟨0, Nat.zero_le _, rfl, rfl⟩
            case round =>
              obtain ⟨k, hk, rfl, rfl⟩ := hrel
              by_cases hlt : k < A0.length
              · have z1 := RQ1.out.cell (i := k) hlt
                go_wp2_with fail
                go_roundw
                case rel => exact ⟨k + 1, hlt, by go_num, by first | rfl | trivial⟩
                case measure => simp [intOf]; omega
              · have x9 := RC3.out.cell (i := 9) (by omega)
                have r0 := RR3.out.cell (i := 0) (by omega)
                have r1 := RR3.out.cell (i := 1) (by omega)
                have r2 := RR3.out.cell (i := 2) (by omega)
                go_wp2_with fail
                refine (reached_any c rb none (some ⟨ab, 0, none⟩) 0 0 A0.length A0.length 1 wr x9 r0 r1 r2).mono ?_
                rintro e w31 ⟨rfl, T31⟩
                have RA4 := hid (row_below RA3.out T31.out)
                have DW4 := hid (below_next DW3.out T31.out)
                clear x9 r0 r1 r2 RC3 RA3 RR3 RQ1
                go_wp2_with fail
                go_loopw [34] (fun i wr => ∃ k : Nat, k ≤ A0.length ∧ i = .int .i64 k ∧ wr = w31) (fun i _ => A0.length - (intOf i).toNat)
                case atStart => exact ⟨0, Nat.zero_le _, rfl, rfl⟩
                case round =>
                  obtain ⟨k, hk, rfl, rfl⟩ := hrel
                  by_cases hlt : k < A0.length
                  · have z1 := RA4.out.cell (i := k) hlt
                    go_wp2_with fail
                    go_roundw
                    case rel => exact ⟨k + 1, hlt, by go_num, by first | rfl | trivial⟩
                    case measure => simp [intOf]; omega
                  · go_wp2_with fail
                    go_ret
                    exact ⟨rfl, DW4⟩
end Go.Proofs.Qxb6605294a
