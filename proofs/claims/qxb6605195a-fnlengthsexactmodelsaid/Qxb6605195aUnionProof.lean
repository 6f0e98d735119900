import Derived.Test.Qxb6605195aUnionMain
import Derived.Test.Qxb6605195aRows
import Derived.Deep.SlicePairs
import Derived.ChangeOld
import Derived.Below
namespace Go.Proofs.Qxb6605195a.fnUnionIsCoverage
open Go.ChangeShapes Go.WideShapes Go.ChangeAt Go.RowKit Plain
set_option linter.unusedVariables false

theorem own : ownKnob Try.prog.godebug = none := by kernel_rfl
theorem laidOut : laidOutB Try.prog = true := by kernel_rfl

theorem add_plain' (b off i : Nat) : (⟨b, off, none⟩ : Addr).add i = ⟨b, off + i, none⟩ := by unfold Addr.add; split <;> simp_all
theorem cell_int {H : Type} {enc : TypeId × Value → H} {W : World} {n : Nat} {v : Value} {D : DataW H} {p : List MemPlace} (h : DataW.trod enc Try.prog W 0 (fun _ => true) true n 21 [v] = some (D, p)) : ∃ z : Int, v = .int .i32 z := by
  obtain ⟨z, hz, _⟩ := DataW.trod_int Try.underlying21 h
  exact ⟨z, by simpa using hz⟩

theorem open_pairs {H : Type} {enc : TypeId × Value → H} {W : World} {a : Option Addr} {len cap : Nat} {y : DataW H × List MemPlace} {fuel : Nat}
    (h : DataW.trod enc Try.prog W 0 (fun _ => true) true fuel 22 (Value.slice a len cap).cells.toList = some y) : ∃ xs : List (Int × Int), xs.length = len ∧ Got W a xs cap ∧ len ≤ maxLen := by
  rcases Deep.open_slice_pairs Try.underlying22 Try.underlying58 (by kernel_rfl) rfl rfl (by kernel_rfl) (by kernel_rfl) h with ⟨hcs, _⟩ | ⟨x, l, c, m, n, V0, V1, D0, D1, P0, P1, hcs, _, hl, hm, hz, _, hcell⟩
  · simp [Value.cells] at hcs
    obtain ⟨rfl, rfl, rfl⟩ := hcs
    exact ⟨[], rfl, ⟨fun h => absurd h (by simp), fun _ => ⟨rfl, rfl⟩⟩, by unfold maxLen; omega⟩
  · simp [Value.cells] at hcs
    obtain ⟨rfl, rfl, rfl⟩ := hcs
    simp only [if_true] at hz
    subst hz
    have hv : ∀ i, i < len → ∃ q : Int × Int, V0 i = .int .i32 q.1 ∧ V1 i = .int .i32 q.2 := by
      intro i hi
      obtain ⟨_, _, t0, t1⟩ := hcell i (by omega)
      obtain ⟨z0, e0⟩ := cell_int t0
      obtain ⟨z1, e1⟩ := cell_int t1
      exact ⟨(z0, z1), e0, e1⟩
    obtain ⟨q, hq⟩ := Deep.choose_lt hv
    refine ⟨(List.range len).map q, by simp, ⟨fun h0 => ?_, fun h => by cases h⟩, by omega⟩
    simp only [List.length_map, List.length_range] at h0 ⊢
    obtain ⟨b, off, spot⟩ := x
    have hc0 := (hcell 0 (by omega)).1
    have hspot : spot = none := by simpa [Addr.add] using World.cell?_spot hc0
    subst hspot
    refine ⟨b, off, rfl, fun i hi => ?_⟩
    have hg : ((List.range len).map q).getD i (0, 0) = q i := by
      rw [List.getD_eq_getElem?_getD]; simp [hi]
    rw [hg]
    obtain ⟨g0, g1, _, _⟩ := hcell i (by omega)
    rw [add_plain', (hq i hi).1] at g0
    rw [add_plain', (hq i hi).2] at g1
    exact ⟨g0, by rw [Nat.add_assoc]; exact g1⟩

set_option maxRecDepth 100000 in
theorem lifted (os : Os) (started : os.Started) (H : Type) (enc : TypeId × Value → H) :
    ReturnsInHanded {} Try.checked os 4 .any (Rows.fnUnionIsCoverageSpec.pre6 enc Try.prog Try.f4 Rows.fnUnionIsCoverageRow.domain false) (Rows.fnUnionIsCoverageSpec.post enc Try.prog Try.f4 false true false false) := by
  refine returnsInHanded_of_change (C := Try.checked) own started (by kernel_rfl) Try.func4
    (ChangeSpec.witness6 (enc := enc) (C := Try.checked) false ⟨#[], #[.slice none 0 0, .slice none 0 0], []⟩ 8 (by kernel_rfl) (by kernel_rfl) (by kernel_rfl) (by kernel_rfl)) ?_
  intro W base args ds gs before hval0 hW hcnd _
  have hval : ∀ (j : Nat) t v, Try.f4.params[j]? = some t → args[j]? = some v → Value.okWide Try.prog W .any base t v := hval0
  have hW' := hW
  obtain ⟨p, q, hA0, hV, rfl, hfz, hnd⟩ := hW
  have hA : DataW.TrodAll enc Try.prog W 0 (fun _ => true) true Try.f4.params.toList args.toList ds p := hA0
  rw [Try.params4] at hA hval
  obtain ⟨v0, vs0, d0, ds0, p0, q0, hargs, rfl, rfl, h0, r0⟩ := trodAll_cons hA
  obtain ⟨v1, vs1, d1, ds1, p1, q1, rfl, rfl, rfl, h1, r1⟩ := trodAll_cons r0
  obtain ⟨rfl, rfl, rfl⟩ := trodAll_nil r1
  obtain rfl : args = #[v0, v1] := by cases args; simp_all
  obtain ⟨rfl, rfl⟩ := trodVars_none hV
  obtain ⟨a0, l0, c0, rfl⟩ := okWide_slice Try.underlying22 (hval 0 22 v0 rfl rfl)
  have k0 := h0
  have lt0 : ∀ x ∈ p0, x.block < W.heap.size := by obtain ⟨m, hm⟩ := k0; exact DataW.trod_lt m _ _ _ hm
  obtain ⟨xs, rfl, g0, m0⟩ := (by obtain ⟨fuel, hf⟩ := h0; exact open_pairs hf : ∃ xs : List (Int × Int), xs.length = l0 ∧ Got W a0 xs c0 ∧ l0 ≤ maxLen)
  obtain ⟨a1, l1, c1, rfl⟩ := okWide_slice Try.underlying22 (hval 1 22 v1 rfl rfl)
  have k1 := h1
  have lt1 : ∀ x ∈ p1, x.block < W.heap.size := by obtain ⟨m, hm⟩ := k1; exact DataW.trod_lt m _ _ _ hm
  obtain ⟨ys, rfl, g1, m1⟩ := (by obtain ⟨fuel, hf⟩ := h1; exact open_pairs hf : ∃ xs : List (Int × Int), xs.length = l1 ∧ Got W a1 xs c1 ∧ l1 ≤ maxLen)
  clear hA0 hval0
  unfold maxLen at m0 m1
  refine (main_any a0 a1 c0 c1 xs ys W m0 m1 g0 g1).mono fun e W' ⟨he, bel⟩ => ?_
  subst he
  exact ⟨_, rfl, _, _, _, [], _, [], hW', trodAll_mk1 (shut_bool Try.underlying4 _), (trodAll_cons_mk (Below.trod laidOut (by kernel_rfl) (of_decide_eq_true (by kernel_rfl)) k0 bel lt0) (trodAll_cons_mk (Below.trod laidOut (by kernel_rfl) (of_decide_eq_true (by kernel_rfl)) k1 bel lt1) trodAll_mk0)), rfl, bel.frame _, fun h => by cases h⟩

theorem over : Rows.fnUnionIsCoverageRow.holds Try.pinned (OpenSpec.ofChange Rows.fnUnionIsCoverageSpec) :=
  OpenClaim.holds_of_wide 4 Try.f4 rfl rfl rfl rfl rfl rfl rfl ⟨rfl, rfl, rfl, rfl, rfl⟩ rfl rfl rfl rfl rfl (by kernel_rfl) Try.func4 (by kernel_rfl)
    (of_decide_eq_true (by kernel_rfl)) (by unfold Func.isWrapper; first | (rw [if_pos (by decide +kernel)]; kernel_rfl) | (rw [if_neg (by decide +kernel)]; exact ⟨rfl, rfl⟩))
    (fun os started H enc _ => lifted os started H enc)

theorem proved : Rows.FnUnionIsCoverageSaid := over
end Go.Proofs.Qxb6605195a.fnUnionIsCoverage
