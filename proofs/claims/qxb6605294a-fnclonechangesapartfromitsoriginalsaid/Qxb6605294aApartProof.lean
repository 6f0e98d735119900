import Derived.Test.Qxb6605294aMain6
import Derived.Test.Qxb6605294aOpen
import Derived.Test.Qxb6605294aRows
namespace Go.Proofs.Qxb6605294a.fnCloneApart
open Go.ChangeShapes Go.WideShapes Go.ChangeAt Go.RowKit
set_option linter.unusedVariables false

theorem own : ownKnob Try.prog.godebug = none := by kernel_rfl
theorem laidOut : laidOutB Try.prog = true := by kernel_rfl

set_option maxRecDepth 100000 in
set_option maxHeartbeats 2000000 in
theorem lifted (os : Os) (started : os.Started) (H : Type) (enc : TypeId × Value → H) :
    ReturnsInHanded {} Try.checked os 6 .any (Rows.fnCloneChangesApartFromItsOriginalSpec.pre6 enc Try.prog Try.f6 Rows.fnCloneChangesApartFromItsOriginalRow.domain false) (Rows.fnCloneChangesApartFromItsOriginalSpec.post enc Try.prog Try.f6 false true false false) := by
  refine returnsInHanded_of_change (C := Try.checked) own started (by kernel_rfl) Try.func6
    (ChangeSpec.witness6 (enc := enc) (C := Try.checked) false ⟨#[], #[.slice none 0 0, .slice none 0 0, .slice none 0 0, .slice none 0 0, .slice none 0 0, .slice none 0 0, .slice none 0 0, .slice none 0 0, .slice none 0 0, .slice none 0 0, .slice none 0 0], []⟩ 8 (by kernel_rfl) (by kernel_rfl) (by kernel_rfl) (by kernel_rfl)) ?_
  intro W base args ds gs before hval0 hW hcnd _
  have hval : ∀ (j : Nat) t v, Try.f6.params[j]? = some t → args[j]? = some v → Value.okWide Try.prog W .any base t v := hval0
  have hW' := hW
  obtain ⟨p, q, hA0, hV, rfl, hfz, hnd⟩ := hW
  have hA : DataW.TrodAll enc Try.prog W 0 (fun _ => true) true Try.f6.params.toList args.toList ds p := hA0
  rw [Try.params6] at hA hval
  obtain ⟨v0, vs0, d0, ds0, p0, q0, hargs, rfl, rfl, h0, r0⟩ := trodAll_cons hA
  obtain ⟨v1, vs1, d1, ds1, p1, q1, rfl, rfl, rfl, h1, r1⟩ := trodAll_cons r0
  obtain ⟨v2, vs2, d2, ds2, p2, q2, rfl, rfl, rfl, h2, r2⟩ := trodAll_cons r1
  obtain ⟨v3, vs3, d3, ds3, p3, q3, rfl, rfl, rfl, h3, r3⟩ := trodAll_cons r2
  obtain ⟨v4, vs4, d4, ds4, p4, q4, rfl, rfl, rfl, h4, r4⟩ := trodAll_cons r3
  obtain ⟨v5, vs5, d5, ds5, p5, q5, rfl, rfl, rfl, h5, r5⟩ := trodAll_cons r4
  obtain ⟨v6, vs6, d6, ds6, p6, q6, rfl, rfl, rfl, h6, r6⟩ := trodAll_cons r5
  obtain ⟨v7, vs7, d7, ds7, p7, q7, rfl, rfl, rfl, h7, r7⟩ := trodAll_cons r6
  obtain ⟨v8, vs8, d8, ds8, p8, q8, rfl, rfl, rfl, h8, r8⟩ := trodAll_cons r7
  obtain ⟨v9, vs9, d9, ds9, p9, q9, rfl, rfl, rfl, h9, r9⟩ := trodAll_cons r8
  obtain ⟨v10, vs10, d10, ds10, p10, q10, rfl, rfl, rfl, h10, r10⟩ := trodAll_cons r9
  obtain ⟨rfl, rfl, rfl⟩ := trodAll_nil r10
  obtain rfl : args = #[v0, v1, v2, v3, v4, v5, v6, v7, v8, v9, v10] := by cases args; simp_all
  obtain ⟨rfl, rfl⟩ := trodVars_none hV
  obtain ⟨a0, l0, c0, rfl⟩ := okWide_slice Try.underlying23 (hval 0 23 v0 rfl rfl)
  have k0 := h0
  have lt0 : ∀ x ∈ p0, x.block < W.heap.size := by obtain ⟨m, hm⟩ := k0; exact DataW.trod_lt m _ _ _ hm
  obtain ⟨A0, rfl, H0, N0, m0, I0⟩ := (by obtain ⟨fuel, hf⟩ := h0; exact open_lists Try.underlying23 Try.underlying22 Try.underlying3 (by kernel_rfl) (by kernel_rfl) hf : ∃ xss : List (List Int), xss.length = l0 ∧ LRow W a0 xss ∧ (a0 = none → xss = [] ∧ c0 = 0) ∧ l0 ≤ 9223372036854775807 ∧ ∀ i, (xss.getD i []).length ≤ 9223372036854775807)
  obtain ⟨a1, l1, c1, rfl⟩ := okWide_slice Try.underlying44 (hval 1 44 v1 rfl rfl)
  have k1 := h1
  have lt1 : ∀ x ∈ p1, x.block < W.heap.size := by obtain ⟨m, hm⟩ := k1; exact DataW.trod_lt m _ _ _ hm
  obtain ⟨A1, rfl, H1, N1, m1, I1⟩ := (by obtain ⟨fuel, hf⟩ := h1; exact open_lists Try.underlying44 Try.underlying46 Try.underlying2 (by kernel_rfl) (by kernel_rfl) hf : ∃ xss : List (List Int), xss.length = l1 ∧ LRow W a1 xss ∧ (a1 = none → xss = [] ∧ c1 = 0) ∧ l1 ≤ 9223372036854775807 ∧ ∀ i, (xss.getD i []).length ≤ 9223372036854775807)
  obtain ⟨a2, l2, c2, rfl⟩ := okWide_slice Try.underlying23 (hval 2 23 v2 rfl rfl)
  have k2 := h2
  have lt2 : ∀ x ∈ p2, x.block < W.heap.size := by obtain ⟨m, hm⟩ := k2; exact DataW.trod_lt m _ _ _ hm
  obtain ⟨A2, rfl, H2, N2, m2, I2⟩ := (by obtain ⟨fuel, hf⟩ := h2; exact open_lists Try.underlying23 Try.underlying22 Try.underlying3 (by kernel_rfl) (by kernel_rfl) hf : ∃ xss : List (List Int), xss.length = l2 ∧ LRow W a2 xss ∧ (a2 = none → xss = [] ∧ c2 = 0) ∧ l2 ≤ 9223372036854775807 ∧ ∀ i, (xss.getD i []).length ≤ 9223372036854775807)
  obtain ⟨a3, l3, c3, rfl⟩ := okWide_slice Try.underlying23 (hval 3 23 v3 rfl rfl)
  have k3 := h3
  have lt3 : ∀ x ∈ p3, x.block < W.heap.size := by obtain ⟨m, hm⟩ := k3; exact DataW.trod_lt m _ _ _ hm
  obtain ⟨A3, rfl, H3, N3, m3, I3⟩ := (by obtain ⟨fuel, hf⟩ := h3; exact open_lists Try.underlying23 Try.underlying22 Try.underlying3 (by kernel_rfl) (by kernel_rfl) hf : ∃ xss : List (List Int), xss.length = l3 ∧ LRow W a3 xss ∧ (a3 = none → xss = [] ∧ c3 = 0) ∧ l3 ≤ 9223372036854775807 ∧ ∀ i, (xss.getD i []).length ≤ 9223372036854775807)
  obtain ⟨a4, l4, c4, rfl⟩ := okWide_slice Try.underlying23 (hval 4 23 v4 rfl rfl)
  have k4 := h4
  have lt4 : ∀ x ∈ p4, x.block < W.heap.size := by obtain ⟨m, hm⟩ := k4; exact DataW.trod_lt m _ _ _ hm
  obtain ⟨A4, rfl, H4, N4, m4, I4⟩ := (by obtain ⟨fuel, hf⟩ := h4; exact open_lists Try.underlying23 Try.underlying22 Try.underlying3 (by kernel_rfl) (by kernel_rfl) hf : ∃ xss : List (List Int), xss.length = l4 ∧ LRow W a4 xss ∧ (a4 = none → xss = [] ∧ c4 = 0) ∧ l4 ≤ 9223372036854775807 ∧ ∀ i, (xss.getD i []).length ≤ 9223372036854775807)
  obtain ⟨a5, l5, c5, rfl⟩ := okWide_slice Try.underlying45 (hval 5 45 v5 rfl rfl)
  have k5 := h5
  have lt5 : ∀ x ∈ p5, x.block < W.heap.size := by obtain ⟨m, hm⟩ := k5; exact DataW.trod_lt m _ _ _ hm
  obtain ⟨K5, rfl, H5, N5, m5, wk⟩ := (by obtain ⟨fuel, hf⟩ := h5; exact open_keys hf : ∃ xs : List (Int × Int), xs.length = l5 ∧ PairRow W a5 xs ∧ (a5 = none → xs = [] ∧ c5 = 0) ∧ l5 ≤ 9223372036854775807 ∧ ∀ k ∈ xs, wfK k)
  obtain ⟨a6, l6, c6, rfl⟩ := okWide_slice Try.underlying22 (hval 6 22 v6 rfl rfl)
  have k6 := h6
  have lt6 : ∀ x ∈ p6, x.block < W.heap.size := by obtain ⟨m, hm⟩ := k6; exact DataW.trod_lt m _ _ _ hm
  obtain ⟨V6, rfl, H6, N6, m6, w6⟩ := (by obtain ⟨fuel, hf⟩ := h6; exact open_introw Try.underlying22 Try.underlying3 (by kernel_rfl) hf : ∃ xs : List Int, xs.length = l6 ∧ IRow W a6 xs ∧ (a6 = none → xs = [] ∧ c6 = 0) ∧ l6 ≤ 9223372036854775807 ∧ ∀ v ∈ xs, (Lit.int .i64 v).wf = true)
  obtain ⟨a7, l7, c7, rfl⟩ := okWide_slice Try.underlying23 (hval 7 23 v7 rfl rfl)
  have k7 := h7
  have lt7 : ∀ x ∈ p7, x.block < W.heap.size := by obtain ⟨m, hm⟩ := k7; exact DataW.trod_lt m _ _ _ hm
  obtain ⟨A7, rfl, H7, N7, m7, I7⟩ := (by obtain ⟨fuel, hf⟩ := h7; exact open_lists Try.underlying23 Try.underlying22 Try.underlying3 (by kernel_rfl) (by kernel_rfl) hf : ∃ xss : List (List Int), xss.length = l7 ∧ LRow W a7 xss ∧ (a7 = none → xss = [] ∧ c7 = 0) ∧ l7 ≤ 9223372036854775807 ∧ ∀ i, (xss.getD i []).length ≤ 9223372036854775807)
  obtain ⟨a8, l8, c8, rfl⟩ := okWide_slice Try.underlying37 (hval 8 37 v8 rfl rfl)
  have k8 := h8
  have lt8 : ∀ x ∈ p8, x.block < W.heap.size := by obtain ⟨m, hm⟩ := k8; exact DataW.trod_lt m _ _ _ hm
  obtain ⟨B8, rfl, H8, N8, m8⟩ := (by obtain ⟨fuel, hf⟩ := h8; exact open_boolrow hf : ∃ xs : List Bool, xs.length = l8 ∧ Row Value.bool false W a8 xs ∧ (a8 = none → xs = [] ∧ c8 = 0) ∧ l8 ≤ 9223372036854775807)
  obtain ⟨a9, l9, c9, rfl⟩ := okWide_slice Try.underlying46 (hval 9 46 v9 rfl rfl)
  have k9 := h9
  have lt9 : ∀ x ∈ p9, x.block < W.heap.size := by obtain ⟨m, hm⟩ := k9; exact DataW.trod_lt m _ _ _ hm
  obtain ⟨P9, rfl, H9, N9, m9, w9⟩ := (by obtain ⟨fuel, hf⟩ := h9; exact open_introw Try.underlying46 Try.underlying2 (by kernel_rfl) hf : ∃ xs : List Int, xs.length = l9 ∧ IRow W a9 xs ∧ (a9 = none → xs = [] ∧ c9 = 0) ∧ l9 ≤ 9223372036854775807 ∧ ∀ v ∈ xs, (Lit.int .i64 v).wf = true)
  obtain ⟨a10, l10, c10, rfl⟩ := okWide_slice Try.underlying37 (hval 10 37 v10 rfl rfl)
  have k10 := h10
  have lt10 : ∀ x ∈ p10, x.block < W.heap.size := by obtain ⟨m, hm⟩ := k10; exact DataW.trod_lt m _ _ _ hm
  obtain ⟨Q10, rfl, H10, N10, m10⟩ := (by obtain ⟨fuel, hf⟩ := h10; exact open_boolrow hf : ∃ xs : List Bool, xs.length = l10 ∧ Row Value.bool false W a10 xs ∧ (a10 = none → xs = [] ∧ c10 = 0) ∧ l10 ≤ 9223372036854775807)
  clear hA0 hval0
  refine (main6 a0 c0 A0 a1 c1 A1 a2 c2 A2 a3 c3 A3 a4 c4 A4 a5 c5 K5 a6 c6 V6 a7 c7 A7 a8 c8 B8 a9 c9 P9 a10 c10 Q10 W m0 m1 m2 m3 m4 m5 m6 m7 m8 m9 m10 I0 I1 I2 I3 I4 I7 H0 H1 H2 H3 H4 H5 H6 H7 H8 H9 H10 N0 N1 N2 N3 N4 N5 N6 N7 N8 N9 N10 wk w6).mono fun e W' ⟨he, bel0⟩ => ?_
  subst he
  have bel := bel0.out
  exact ⟨_, rfl, _, _, _, [], _, [], hW', trodAll_mk1 (shut_bool Try.underlying4 _), (trodAll_cons_mk (Below.trod laidOut (by kernel_rfl) (of_decide_eq_true (by kernel_rfl)) k0 bel lt0) (trodAll_cons_mk (Below.trod laidOut (by kernel_rfl) (of_decide_eq_true (by kernel_rfl)) k1 bel lt1) (trodAll_cons_mk (Below.trod laidOut (by kernel_rfl) (of_decide_eq_true (by kernel_rfl)) k2 bel lt2) (trodAll_cons_mk (Below.trod laidOut (by kernel_rfl) (of_decide_eq_true (by kernel_rfl)) k3 bel lt3) (trodAll_cons_mk (Below.trod laidOut (by kernel_rfl) (of_decide_eq_true (by kernel_rfl)) k4 bel lt4) (trodAll_cons_mk (Below.trod laidOut (by kernel_rfl) (of_decide_eq_true (by kernel_rfl)) k5 bel lt5) (trodAll_cons_mk (Below.trod laidOut (by kernel_rfl) (of_decide_eq_true (by kernel_rfl)) k6 bel lt6) (trodAll_cons_mk (Below.trod laidOut (by kernel_rfl) (of_decide_eq_true (by kernel_rfl)) k7 bel lt7) (trodAll_cons_mk (Below.trod laidOut (by kernel_rfl) (of_decide_eq_true (by kernel_rfl)) k8 bel lt8) (trodAll_cons_mk (Below.trod laidOut (by kernel_rfl) (of_decide_eq_true (by kernel_rfl)) k9 bel lt9) (trodAll_cons_mk (Below.trod laidOut (by kernel_rfl) (of_decide_eq_true (by kernel_rfl)) k10 bel lt10) trodAll_mk0))))))))))), rfl, bel.frame _, fun h => by cases h⟩

theorem over : Rows.fnCloneChangesApartFromItsOriginalRow.holds Try.pinned (OpenSpec.ofChange Rows.fnCloneChangesApartFromItsOriginalSpec) :=
  OpenClaim.holds_of_wide 6 Try.f6 rfl rfl rfl rfl rfl rfl rfl ⟨rfl, rfl, rfl, rfl, rfl⟩ rfl rfl rfl rfl rfl (by kernel_rfl) Try.func6 (by kernel_rfl)
    (of_decide_eq_true (by kernel_rfl)) (by unfold Func.isWrapper; first | (rw [if_pos (by decide +kernel)]; kernel_rfl) | (rw [if_neg (by decide +kernel)]; exact ⟨rfl, rfl⟩))
    (fun os started H enc _ => lifted os started H enc)

theorem proved : Rows.FnCloneChangesApartFromItsOriginalSaid := over
end Go.Proofs.Qxb6605294a.fnCloneApart
