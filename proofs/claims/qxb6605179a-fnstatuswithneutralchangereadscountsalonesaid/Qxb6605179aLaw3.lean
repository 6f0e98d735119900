import Derived.Test.Qxb6605179aStatus
import Derived.Test.Qxb6605179aZz
import Derived.ShutString
import Derived.ChangeOld
import Derived.Below
namespace Go.Proofs.Qxb6605179a.fnStatusWithNeutralChangeReadsCountsAlone
open Go.ChangeShapes Go.WideShapes Go.ChangeAt Go.RowKit Go.WideMaps Go.Maps
set_option linter.unusedVariables false

theorem own : ownKnob Try.prog.godebug = none := by kernel_rfl
theorem laidOut : laidOutB Try.prog = true := by kernel_rfl

theorem counts_any (h q : Int) (v1 v2 : Option Nat) (w : World) :
    Calls Try.prog 16 #[.int .i64 h, .map v1, .map v2, .int .i64 q] w fun e w' => e = .returned (.agg #[.int .i64 h, .map v1, .map v2, .int .i64 q]) ∧ Hid (Below w.heap.size w w') := by
  go_enter Try.func16, Try.ntmps16
  go_wp2
  exact bodyPost_ret (v := .agg #[.int .i64 h, .map v1, .map v2, .int .i64 q]) (by simp [results, Try.results16, go_sem]) rfl ⟨rfl, (Below.refl _ _).alloc (Nat.le_refl _) _⟩

theorem _root_.Go.Proofs.Qxb6605179a.MapAt.shape {w : World} {v : Value} {D : DataW Unit} (h : MapAt w v D) : ∃ r, v = .map r := by
  rcases h with ⟨rfl, _⟩ | ⟨b, n, rfl, _⟩
  · exact ⟨_, rfl⟩
  · exact ⟨_, rfl⟩
theorem map_res (a1 a2 : Option Addr) (l1 c1 l2 c2 : Nat) (w : World) (h1 : l1 ≤ 4096) (h2 : l2 ≤ 4096) (r1 : StrRow w a1 l1) (r2 : IntRow w a2 l2) :
    Calls Try.prog 17 #[.slice a1 l1 c1, .slice a2 l2 c2] w fun e w' => ∃ v D, e = .returned (.map v) ∧ Hid (MapAt w' (.map v) D) ∧ Hid (Below w.heap.size w w') := by
  refine (map_any a1 a2 l1 c1 l2 c2 w h1 h2 r1 r2).mono ?_
  rintro e w' ⟨⟨v, D, rfl, hm⟩, hb⟩
  obtain ⟨r, rfl⟩ := hm.shape
  exact ⟨r, D, rfl, hm, hb⟩

theorem zero_res (a : Option Addr) (len cap : Nat) (w : World) (hm : len ≤ 4096) (hr : StrRow w a len) :
    Calls Try.prog 18 #[.slice a len cap] w fun e w' => ∃ v D, e = .returned (.map v) ∧ Hid (MapAt w' (.map v) D) ∧ Hid (∀ kl, D.atKey kl (.lit (.int .i64 0)) = .lit (.int .i64 0)) ∧ Hid (Below w.heap.size w w') := by
  refine (zeroMap_any a len cap w hm hr).mono ?_
  rintro e w' ⟨⟨v, D, rfl, hm, hz⟩, hb⟩
  obtain ⟨r, rfl⟩ := hm.shape
  exact ⟨r, D, rfl, hm, hz, hb⟩

set_option maxRecDepth 100000 in
set_option maxHeartbeats 4000000 in
theorem walk_in (x0 x1 x9 : Int) (a2 a3 a4 a5 a6 a7 a8 : Option Addr) (l2 c2 l3 c3 l4 c4 l5 c5 l6 c6 l7 c7 l8 c8 : Nat) (w : World)
    (b0 : -9223372036854775808 ≤ x0) (b0' : x0 ≤ 9223372036854775807) (b1 : -9223372036854775808 ≤ x1) (b1' : x1 ≤ 9223372036854775807)
    (m2 : l2 ≤ 4096) (m3 : l3 ≤ 4096) (m4 : l4 ≤ 4096) (m5 : l5 ≤ 4096) (m6 : l6 ≤ 4096) (m7 : l7 ≤ 4096) (m8 : l8 ≤ 4096)
    (r2 : Hid (StrRow w a2 l2)) (r3 : Hid (IntRow w a3 l3)) (r4 : Hid (StrRow w a4 l4)) (r5 : Hid (IntRow w a5 l5)) (r6 : Hid (StrRow w a6 l6)) (r7 : Hid (StrRow w a7 l7)) (r8 : Hid (IntRow w a8 l8)) :
    Calls Try.prog 5 #[.int .i64 x0, .int .i64 x1, .slice a2 l2 c2, .slice a3 l3 c3, .slice a4 l4 c4, .slice a5 l5 c5, .slice a6 l6 c6, .slice a7 l7 c7, .slice a8 l8 c8, .int .i64 x9] w fun e w' => e = .returned (.bool true) ∧ Below w.heap.size w w' := by
  go_enter Try.func5, Try.ntmps5
  go_wp2_with (first | (go_at_call 13; refine (zz_any x0 x1 x9 a2 a3 a4 a5 a6 a7 a8 l2 c2 l3 c3 l4 c4 l5 c5 l6 c6 l7 c7 l8 c8 _ (by omega) (by omega) (by omega) (by omega) (by omega) (by omega) (by omega) r2 r4 r6 r7).mono ?_; rintro e w' ⟨⟨b, rfl⟩, rfl⟩) | (go_at_call 14; refine (strs_bytes _ _ _ _ ?_ ?_).mono ?_; (omega); (first | exact r2.out | exact r4.out | exact r6.out | exact r7.out); rintro e w' ⟨⟨n, rfl⟩, rfl⟩) | (go_at_call 15; refine (ints_bytes _ _ _ _ ?_).mono ?_; (omega); rintro e w' ⟨⟨n, rfl⟩, rfl⟩) | fail)
  · go_ret
    exact ⟨rfl, Below.refl _ _⟩
  · go_ret
    exact ⟨rfl, Below.refl _ _⟩
  · refine (map_res _ _ _ _ _ _ _ m2 m3 r2.out r3.out).mono ?_
    rintro e w1 ⟨v1, D1, rfl, M1, B1⟩
    go_wp2_with fail
    refine (map_res _ _ _ _ _ _ _ m4 m5 (r4.out.below B1.out) (r5.out.below B1.out)).mono ?_
    rintro e w2 ⟨v2, D2, rfl, M2, B2⟩
    go_wp2_with fail
    refine (counts_any _ _ _ _ _).mono ?_
    rintro e w3 ⟨rfl, B3⟩
    have B03 : Hid (Below w'.heap.size w' w3) := (B1.out.trans (B2.out.mono B1.out.size)).trans (B3.out.mono (Nat.le_trans B1.out.size B2.out.size))
    have B0 : Hid (Below w'.heap.size w' (w3.alloc (.cells #[.int .i64 x0, .map v1, .map v2, .int .i64 x1] 33))) := B03.out.alloc B03.out.size _
    go_wp2_with fail
    refine (zero_res _ _ _ _ m6 (r6.out.below B0.out)).mono ?_
    rintro e w4 ⟨v3, D3, rfl, M3, Z3, B4⟩
    have B04 : Hid (Below w'.heap.size w' w4) := B0.out.trans (B4.out.mono B0.out.size)
    go_wp2_with fail
    refine (map_res _ _ _ _ _ _ _ m7 m8 (r7.out.below B04.out) (r8.out.below B04.out)).mono ?_
    rintro e w5 ⟨v4, D4, rfl, M4, B5⟩
    go_wp2_with fail
    refine (counts_any _ _ _ _ _).mono ?_
    rintro e w6 ⟨rfl, B6⟩
    have B46 : Hid (Below w4.heap.size w4 w6) := B5.out.trans (B6.out.mono B5.out.size)
    have B36 : Hid (Below (w3.heap.size + 1) (w3.alloc (.cells #[.int .i64 x0, .map v1, .map v2, .int .i64 x1] 33)) w6) := by
      have hs := B4.out.size
      simp at hs
      exact (B4.out.mono (by simp)).trans (B46.out.mono hs)
    have c21 : ∀ o, w6.cell? ⟨w3.heap.size, o, none⟩ = (w3.alloc (.cells #[.int .i64 x0, .map v1, .map v2, .int .i64 x1] 33)).cell? ⟨w3.heap.size, o, none⟩ := fun o => bcell B36.out _ o (by omega)
    have hz6 : w3.heap.size < w6.heap.size := by have := B36.out.size; simp at this; omega
    have B06 : Hid (Below w'.heap.size w' w6) := B04.out.trans (B46.out.mono B04.out.size)
    have M16 : Hid (MapAt (w6.alloc (.cells #[.int .i64 0, .map v3, .map v4, .int .i64 x9] 33)) (.map v1) D1) := by
      have h1 : Below w1.heap.size w1 w3 := B2.out.trans (B3.out.mono B2.out.size)
      exact (M1.out.below (((h1.alloc h1.size _).trans (B36.out.mono (Nat.le_trans h1.size (Nat.le_succ _)))).alloc (by have := h1.size; omega) _))
    have M26 : Hid (MapAt (w6.alloc (.cells #[.int .i64 0, .map v3, .map v4, .int .i64 x9] 33)) (.map v2) D2) := by
      have h1 : Below w2.heap.size w2 w3 := B3.out
      exact (M2.out.below (((h1.alloc h1.size _).trans (B36.out.mono (Nat.le_trans h1.size (Nat.le_succ _)))).alloc (by have := h1.size; omega) _))
    have M36 : Hid (MapAt (w6.alloc (.cells #[.int .i64 0, .map v3, .map v4, .int .i64 x9] 33)) (.map v3) D3) := M3.out.below (B46.out.alloc B46.out.size _)
    have BE : Hid (Below w'.heap.size w' (w6.alloc (.cells #[.int .i64 0, .map v3, .map v4, .int .i64 x9] 33))) := B06.out.alloc B06.out.size _
    go_wp2_with fail
    by_cases hp : 0 < x0
    · refine (status_run x0 x1 x9 _ _ _ _ _ hp b0').mono ?_
      rintro e w7 ⟨rfl, B7⟩
      have B7H : Hid (Below w'.heap.size w' w7) := BE.out.trans (B7.mono BE.out.size)
      clear B7
      go_wp2
      go_ret
      exact ⟨by simp, B7H.out⟩
    · by_cases hq : 0 < x1
      · refine (status_any x0 x1 x9 _ _ _ _ D1 D2 D3 _ _ (by omega) b0 b1 b1' (.inl ⟨hq, rfl⟩) M16.out M26.out M36.out Z3.out).mono ?_
        rintro e w7 ⟨rfl, B7⟩
        have B7H : Hid (Below w'.heap.size w' w7) := BE.out.trans (B7.mono BE.out.size)
        clear B7
        go_wp2
        go_ret
        exact ⟨by simp, B7H.out⟩
      · refine (status_any x0 x1 x9 _ _ _ _ D1 D2 D3 _ _ (by omega) b0 b1 b1' (.inr ⟨by omega, rfl⟩) M16.out M26.out M36.out Z3.out).mono ?_
        rintro e w7 ⟨rfl, B7⟩
        have B7H : Hid (Below w'.heap.size w' w7) := BE.out.trans (B7.mono BE.out.size)
        clear B7
        go_wp2
        go_ret
        exact ⟨by simp, B7H.out⟩

set_option maxRecDepth 100000 in
set_option maxHeartbeats 8000000 in
theorem walk_out (x0 x1 x9 : Int) (a2 a3 a4 a5 a6 a7 a8 : Option Addr) (l2 c2 l3 c3 l4 c4 l5 c5 l6 c6 l7 c7 l8 c8 : Nat) (w : World)
    (m2 : l2 ≤ 9223372036854775807) (m3 : l3 ≤ 9223372036854775807) (m4 : l4 ≤ 9223372036854775807) (m5 : l5 ≤ 9223372036854775807) (m6 : l6 ≤ 9223372036854775807) (m7 : l7 ≤ 9223372036854775807) (m8 : l8 ≤ 9223372036854775807)
    (r2 : Hid (StrRow w a2 l2)) (r4 : Hid (StrRow w a4 l4)) (r6 : Hid (StrRow w a6 l6)) (r7 : Hid (StrRow w a7 l7))
    (hm : 4096 < l2 ∨ (l2 ≤ 4096 ∧ 4096 < l3) ∨ (l2 ≤ 4096 ∧ l3 ≤ 4096 ∧ 4096 < l4) ∨ (l2 ≤ 4096 ∧ l3 ≤ 4096 ∧ l4 ≤ 4096 ∧ 4096 < l5) ∨ (l2 ≤ 4096 ∧ l3 ≤ 4096 ∧ l4 ≤ 4096 ∧ l5 ≤ 4096 ∧ 4096 < l6) ∨ (l2 ≤ 4096 ∧ l3 ≤ 4096 ∧ l4 ≤ 4096 ∧ l5 ≤ 4096 ∧ l6 ≤ 4096 ∧ 4096 < l7) ∨ (l2 ≤ 4096 ∧ l3 ≤ 4096 ∧ l4 ≤ 4096 ∧ l5 ≤ 4096 ∧ l6 ≤ 4096 ∧ l7 ≤ 4096 ∧ 4096 < l8)) :
    Calls Try.prog 5 #[.int .i64 x0, .int .i64 x1, .slice a2 l2 c2, .slice a3 l3 c3, .slice a4 l4 c4, .slice a5 l5 c5, .slice a6 l6 c6, .slice a7 l7 c7, .slice a8 l8 c8, .int .i64 x9] w fun e w' => e = .returned (.bool true) ∧ Below w.heap.size w w' := by
  rcases hm with k2 | ⟨k2, k3⟩ | ⟨k2, k3, k4⟩ | ⟨k2, k3, k4, k5⟩ | ⟨k2, k3, k4, k5, k6⟩ | ⟨k2, k3, k4, k5, k6, k7⟩ | ⟨k2, k3, k4, k5, k6, k7, k8⟩
  all_goals
    go_enter Try.func5, Try.ntmps5
    go_wp2_with (first | (go_at_call 13; refine (zz_any x0 x1 x9 a2 a3 a4 a5 a6 a7 a8 l2 c2 l3 c3 l4 c4 l5 c5 l6 c6 l7 c7 l8 c8 _ (by omega) (by omega) (by omega) (by omega) (by omega) (by omega) (by omega) r2 r4 r6 r7).mono ?_; rintro e w' ⟨⟨b, rfl⟩, rfl⟩) | (go_at_call 14; refine (strs_bytes _ _ _ _ ?_ ?_).mono ?_; (omega); (first | exact r2.out | exact r4.out | exact r6.out | exact r7.out); rintro e w' ⟨⟨n, rfl⟩, rfl⟩) | (go_at_call 15; refine (ints_bytes _ _ _ _ ?_).mono ?_; (omega); rintro e w' ⟨⟨n, rfl⟩, rfl⟩) | fail)
    all_goals
      go_ret
      exact ⟨rfl, Below.refl _ _⟩

theorem walk (x0 x1 x9 : Int) (a2 a3 a4 a5 a6 a7 a8 : Option Addr) (l2 c2 l3 c3 l4 c4 l5 c5 l6 c6 l7 c7 l8 c8 : Nat) (w : World)
    (q0 : (Lit.int .i64 x0).wf = true) (q1 : (Lit.int .i64 x1).wf = true)
    (m2 : l2 ≤ maxLen) (m3 : l3 ≤ maxLen) (m4 : l4 ≤ maxLen) (m5 : l5 ≤ maxLen) (m6 : l6 ≤ maxLen) (m7 : l7 ≤ maxLen) (m8 : l8 ≤ maxLen)
    (r2 : StrRow w a2 l2) (r3 : IntRow w a3 l3) (r4 : StrRow w a4 l4) (r5 : IntRow w a5 l5) (r6 : StrRow w a6 l6) (r7 : StrRow w a7 l7) (r8 : IntRow w a8 l8) :
    Calls Try.prog 5 #[.int .i64 x0, .int .i64 x1, .slice a2 l2 c2, .slice a3 l3 c3, .slice a4 l4 c4, .slice a5 l5 c5, .slice a6 l6 c6, .slice a7 l7 c7, .slice a8 l8 c8, .int .i64 x9] w fun e w' => e = .returned (.bool true) ∧ Below w.heap.size w w' := by
  obtain ⟨b0, b0'⟩ := wf_of_bounds q0
  obtain ⟨b1, b1'⟩ := wf_of_bounds q1
  unfold maxLen at m2 m3 m4 m5 m6 m7 m8
  by_cases h : l2 ≤ 4096 ∧ l3 ≤ 4096 ∧ l4 ≤ 4096 ∧ l5 ≤ 4096 ∧ l6 ≤ 4096 ∧ l7 ≤ 4096 ∧ l8 ≤ 4096
  · obtain ⟨k2, k3, k4, k5, k6, k7, k8⟩ := h
    exact walk_in x0 x1 x9 a2 a3 a4 a5 a6 a7 a8 l2 c2 l3 c3 l4 c4 l5 c5 l6 c6 l7 c7 l8 c8 w b0 b0' b1 b1' k2 k3 k4 k5 k6 k7 k8 r2 r3 r4 r5 r6 r7 r8
  · exact walk_out x0 x1 x9 a2 a3 a4 a5 a6 a7 a8 l2 c2 l3 c3 l4 c4 l5 c5 l6 c6 l7 c7 l8 c8 w m2 m3 m4 m5 m6 m7 m8 r2 r4 r6 r7 (by omega)

/-! ### the arguments -/
theorem add_plain (b off i : Nat) : (⟨b, off, none⟩ : Addr).add i = ⟨b, off + i, none⟩ := by unfold Addr.add; split <;> simp_all

theorem open_strs {H : Type} {enc : TypeId × Value → H} {W : World} {a : Option Addr} {len cap : Nat} {y : DataW H × List MemPlace} {fuel : Nat}
    (h : DataW.trod enc Try.prog W 0 (fun _ => true) true fuel 26 (Value.slice a len cap).cells.toList = some y) : StrRow W a len ∧ len ≤ maxLen := by
  rcases open_strings Try.underlying26 Try.underlying9 (by kernel_rfl) h with ⟨hcs, _⟩ | ⟨x, l, c, ss, hcs, _, hl, hm, hz, _, hcell, hws⟩
  · simp [Value.cells] at hcs
    obtain ⟨rfl, rfl, rfl⟩ := hcs
    exact ⟨fun h => absurd h (by omega), by unfold maxLen; omega⟩
  · simp [Value.cells] at hcs
    obtain ⟨rfl, rfl, rfl⟩ := hcs
    simp only [if_true] at hz
    refine ⟨fun h0 => ?_, by omega⟩
    obtain ⟨b, off, spot⟩ := x
    have hc0 := hcell 0 (by omega)
    have hspot : spot = none := by simpa [Addr.add] using World.cell?_spot hc0
    subst hspot
    refine ⟨b, off, rfl, fun i hi => ⟨ss.getD i ByteArray.empty, ?_, ?_⟩⟩
    · rw [← add_plain]; exact hcell i (by omega)
    · have := hws (ss.getD i ByteArray.empty) (by rw [List.getD_eq_getElem?_getD, List.getElem?_eq_getElem (show i < ss.length by omega)]; exact List.getElem_mem _)
      unfold maxLen at this; omega

theorem open_nums {H : Type} {enc : TypeId × Value → H} {W : World} {a : Option Addr} {len cap : Nat} {y : DataW H × List MemPlace} {fuel : Nat}
    (h : DataW.trod enc Try.prog W 0 (fun _ => true) true fuel 27 (Value.slice a len cap).cells.toList = some y) : IntRow W a len ∧ len ≤ maxLen := by
  rcases open_ints Try.underlying27 Try.underlying3 (by kernel_rfl) h with ⟨hcs, _⟩ | ⟨x, l, c, zs, hcs, _, hl, hm, hz, _, hcell, hwz⟩
  · simp [Value.cells] at hcs
    obtain ⟨rfl, rfl, rfl⟩ := hcs
    exact ⟨fun h => absurd h (by omega), by unfold maxLen; omega⟩
  · simp [Value.cells] at hcs
    obtain ⟨rfl, rfl, rfl⟩ := hcs
    simp only [if_true] at hz
    refine ⟨fun h0 => ?_, by omega⟩
    obtain ⟨b, off, spot⟩ := x
    have hc0 := hcell 0 (by omega)
    have hspot : spot = none := by simpa [Addr.add] using World.cell?_spot hc0
    subst hspot
    refine ⟨b, off, rfl, fun i hi => ⟨zs.getD i 0, ?_, ?_⟩⟩
    · rw [← add_plain]; exact hcell i (by omega)
    · exact hwz (zs.getD i 0) (by rw [List.getD_eq_getElem?_getD, List.getElem?_eq_getElem (show i < zs.length by omega)]; exact List.getElem_mem _)

set_option maxRecDepth 100000 in
theorem lifted (os : Os) (started : os.Started) (H : Type) (enc : TypeId × Value → H) :
    ReturnsInHanded {} Try.checked os 5 .any (Rows.fnStatusWithNeutralChangeReadsCountsAloneSpec.pre6 enc Try.prog Try.f5 Rows.fnStatusWithNeutralChangeReadsCountsAloneRow.domain false) (Rows.fnStatusWithNeutralChangeReadsCountsAloneSpec.post enc Try.prog Try.f5 false true false false) := by
  refine returnsInHanded_of_change (C := Try.checked) own started (by kernel_rfl) Try.func5
    (ChangeSpec.witness6 (enc := enc) (C := Try.checked) false ⟨#[], #[.int .i64 0, .int .i64 0, .slice none 0 0, .slice none 0 0, .slice none 0 0, .slice none 0 0, .slice none 0 0, .slice none 0 0, .slice none 0 0, .int .i64 0], []⟩ 8 (by kernel_rfl) (by kernel_rfl) (by kernel_rfl) (by kernel_rfl)) ?_
  intro W base args ds gs before hval0 hW hcnd _
  have hval : ∀ (j : Nat) t v, Try.f5.params[j]? = some t → args[j]? = some v → Value.okWide Try.prog W .any base t v := hval0
  have hW' := hW
  obtain ⟨p, q, hA0, hV, rfl, hfz, hnd⟩ := hW
  have hA : DataW.TrodAll enc Try.prog W 0 (fun _ => true) true Try.f5.params.toList args.toList ds p := hA0
  rw [Try.params5] at hA hval
  obtain ⟨v0, vs0, d0, ds0, p0, q0, hargs, rfl, rfl, h0, r0⟩ := trodAll_cons hA
  obtain ⟨v1, vs1, d1, ds1, p1, q1, rfl, rfl, rfl, h1, r1⟩ := trodAll_cons r0
  obtain ⟨v2, vs2, d2, ds2, p2, q2, rfl, rfl, rfl, h2, r2⟩ := trodAll_cons r1
  obtain ⟨v3, vs3, d3, ds3, p3, q3, rfl, rfl, rfl, h3, r3⟩ := trodAll_cons r2
  obtain ⟨v4, vs4, d4, ds4, p4, q4, rfl, rfl, rfl, h4, r4⟩ := trodAll_cons r3
  obtain ⟨v5, vs5, d5, ds5, p5, q5, rfl, rfl, rfl, h5, r5⟩ := trodAll_cons r4
  obtain ⟨v6, vs6, d6, ds6, p6, q6, rfl, rfl, rfl, h6, r6⟩ := trodAll_cons r5
  obtain ⟨v7, vs7, d7, ds7, p7, q7, rfl, rfl, rfl, h7, r7⟩ := trodAll_cons r6
  obtain ⟨v8, vs8, d8, ds8, p8, q8, rfl, rfl, rfl, h8, r8⟩ := trodAll_cons r7
  obtain ⟨v9, vs9, d9, ds9, p9, q9, rfl, rfl, rfl, h9, r9⟩ := trodAll_cons r8
  obtain ⟨rfl, rfl, rfl⟩ := trodAll_nil r9
  obtain rfl : args = #[v0, v1, v2, v3, v4, v5, v6, v7, v8, v9] := by cases args; simp_all
  obtain ⟨rfl, rfl⟩ := trodVars_none hV
  obtain ⟨x0, rfl, rfl, rfl, e0⟩ := open_int Try.underlying3 (hval 0 3 v0 rfl rfl) h0
  obtain ⟨x1, rfl, rfl, rfl, e1⟩ := open_int Try.underlying3 (hval 1 3 v1 rfl rfl) h1
  obtain ⟨a2, l2, c2, rfl⟩ := okWide_slice Try.underlying26 (hval 2 26 v2 rfl rfl)
  have k2 := h2
  have lt2 : ∀ x ∈ p2, x.block < W.heap.size := by obtain ⟨m, hm⟩ := k2; exact DataW.trod_lt m _ _ _ hm
  obtain ⟨e2, g2⟩ := (by obtain ⟨fuel, hf⟩ := h2; exact open_strs hf : StrRow W a2 l2 ∧ l2 ≤ maxLen)
  obtain ⟨a3, l3, c3, rfl⟩ := okWide_slice Try.underlying27 (hval 3 27 v3 rfl rfl)
  have k3 := h3
  have lt3 : ∀ x ∈ p3, x.block < W.heap.size := by obtain ⟨m, hm⟩ := k3; exact DataW.trod_lt m _ _ _ hm
  obtain ⟨e3, g3⟩ := (by obtain ⟨fuel, hf⟩ := h3; exact open_nums hf : IntRow W a3 l3 ∧ l3 ≤ maxLen)
  obtain ⟨a4, l4, c4, rfl⟩ := okWide_slice Try.underlying26 (hval 4 26 v4 rfl rfl)
  have k4 := h4
  have lt4 : ∀ x ∈ p4, x.block < W.heap.size := by obtain ⟨m, hm⟩ := k4; exact DataW.trod_lt m _ _ _ hm
  obtain ⟨e4, g4⟩ := (by obtain ⟨fuel, hf⟩ := h4; exact open_strs hf : StrRow W a4 l4 ∧ l4 ≤ maxLen)
  obtain ⟨a5, l5, c5, rfl⟩ := okWide_slice Try.underlying27 (hval 5 27 v5 rfl rfl)
  have k5 := h5
  have lt5 : ∀ x ∈ p5, x.block < W.heap.size := by obtain ⟨m, hm⟩ := k5; exact DataW.trod_lt m _ _ _ hm
  obtain ⟨e5, g5⟩ := (by obtain ⟨fuel, hf⟩ := h5; exact open_nums hf : IntRow W a5 l5 ∧ l5 ≤ maxLen)
  obtain ⟨a6, l6, c6, rfl⟩ := okWide_slice Try.underlying26 (hval 6 26 v6 rfl rfl)
  have k6 := h6
  have lt6 : ∀ x ∈ p6, x.block < W.heap.size := by obtain ⟨m, hm⟩ := k6; exact DataW.trod_lt m _ _ _ hm
  obtain ⟨e6, g6⟩ := (by obtain ⟨fuel, hf⟩ := h6; exact open_strs hf : StrRow W a6 l6 ∧ l6 ≤ maxLen)
  obtain ⟨a7, l7, c7, rfl⟩ := okWide_slice Try.underlying26 (hval 7 26 v7 rfl rfl)
  have k7 := h7
  have lt7 : ∀ x ∈ p7, x.block < W.heap.size := by obtain ⟨m, hm⟩ := k7; exact DataW.trod_lt m _ _ _ hm
  obtain ⟨e7, g7⟩ := (by obtain ⟨fuel, hf⟩ := h7; exact open_strs hf : StrRow W a7 l7 ∧ l7 ≤ maxLen)
  obtain ⟨a8, l8, c8, rfl⟩ := okWide_slice Try.underlying27 (hval 8 27 v8 rfl rfl)
  have k8 := h8
  have lt8 : ∀ x ∈ p8, x.block < W.heap.size := by obtain ⟨m, hm⟩ := k8; exact DataW.trod_lt m _ _ _ hm
  obtain ⟨e8, g8⟩ := (by obtain ⟨fuel, hf⟩ := h8; exact open_nums hf : IntRow W a8 l8 ∧ l8 ≤ maxLen)
  obtain ⟨x9, rfl, rfl, rfl, e9⟩ := open_int Try.underlying3 (hval 9 3 v9 rfl rfl) h9
  clear hA0 hval0
  refine (walk x0 x1 x9 a2 a3 a4 a5 a6 a7 a8 l2 c2 l3 c3 l4 c4 l5 c5 l6 c6 l7 c7 l8 c8 W e0 e1 g2 g3 g4 g5 g6 g7 g8 e2 e3 e4 e5 e6 e7 e8).mono fun e W' ⟨he, bel⟩ => ?_
  subst he
  exact ⟨_, rfl, _, _, _, [], _, [], hW', trodAll_mk1 (shut_bool Try.underlying4 _), (trodAll_cons_mk (shut_int Try.underlying3 e0) (trodAll_cons_mk (shut_int Try.underlying3 e1) (trodAll_cons_mk (Below.trod laidOut (by kernel_rfl) (of_decide_eq_true (by kernel_rfl)) k2 bel lt2) (trodAll_cons_mk (Below.trod laidOut (by kernel_rfl) (of_decide_eq_true (by kernel_rfl)) k3 bel lt3) (trodAll_cons_mk (Below.trod laidOut (by kernel_rfl) (of_decide_eq_true (by kernel_rfl)) k4 bel lt4) (trodAll_cons_mk (Below.trod laidOut (by kernel_rfl) (of_decide_eq_true (by kernel_rfl)) k5 bel lt5) (trodAll_cons_mk (Below.trod laidOut (by kernel_rfl) (of_decide_eq_true (by kernel_rfl)) k6 bel lt6) (trodAll_cons_mk (Below.trod laidOut (by kernel_rfl) (of_decide_eq_true (by kernel_rfl)) k7 bel lt7) (trodAll_cons_mk (Below.trod laidOut (by kernel_rfl) (of_decide_eq_true (by kernel_rfl)) k8 bel lt8) (trodAll_cons_mk (shut_int Try.underlying3 e9) trodAll_mk0)))))))))), rfl, bel.frame _, fun h => by cases h⟩

theorem over : Rows.fnStatusWithNeutralChangeReadsCountsAloneRow.holds Try.pinned (OpenSpec.ofChange Rows.fnStatusWithNeutralChangeReadsCountsAloneSpec) :=
  OpenClaim.holds_of_wide 5 Try.f5 rfl rfl rfl rfl rfl rfl rfl ⟨rfl, rfl, rfl, rfl, rfl⟩ rfl rfl rfl rfl rfl (by kernel_rfl) Try.func5 (by kernel_rfl)
    (of_decide_eq_true (by kernel_rfl)) (by unfold Func.isWrapper; first | (rw [if_pos (by decide +kernel)]; kernel_rfl) | (rw [if_neg (by decide +kernel)]; exact ⟨rfl, rfl⟩))
    (fun os started H enc _ => lifted os started H enc)

theorem proved : Rows.FnStatusWithNeutralChangeReadsCountsAloneSaid := over
end Go.Proofs.Qxb6605179a.fnStatusWithNeutralChangeReadsCountsAlone
