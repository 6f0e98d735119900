import Derived.Test.Qxb6605179aSplit
import Derived.ShutString
import Derived.ChangeOld
import Derived.Below
namespace Go.Proofs.Qxb6605179a.fnIDDigitsAgreesWithGroupSplit
open Go.ChangeShapes Go.WideShapes Go.ChangeAt Go.RowKit Plain
open Go.ChangeMaps (open_string shut_string)
set_option linter.unusedVariables false

theorem own : ownKnob Try.prog.godebug = none := by kernel_rfl

theorem idDigits_res (s : ByteArray) (w : World) (hm : s.size ≤ 65536) :
    Calls Try.prog 20 #[.string s] w fun e w' => e = .returned (.tuple #[.int .i64 (((idDig (bs s)).getD 0 : Nat) : Int), .bool (idDig (bs s)).isSome]) ∧ w' = w := idDigits_any s w hm
theorem split_res (s : ByteArray) (w : World) (hm : s.size ≤ 65536) :
    Calls Try.prog 8 #[.string s] w fun e w' => e = .returned (.tuple #[.int .i64 (((idDig (bs s)).getD 0 : Nat) : Int), .bool (idDig (bs s)).isSome]) ∧ Below w.heap.size w w' :=
  split_any s w (idDig (bs s)) hm (law1 (bs s))

set_option maxHeartbeats 1000000 in
theorem walk (a0 : ByteArray) (w0 : a0.size ≤ maxLen) (w : World) :
    Calls Try.prog 3 #[.string a0] w fun e w' => e = .returned (.bool true) ∧ Below w.heap.size w w' := by
  unfold maxLen at w0
  by_cases h : a0.size ≤ 65536
  · go_enter Try.func3, Try.ntmps3
    go_wp2_with (first | (go_at_call 20; refine (idDigits_res a0 _ h).mono ?_; rintro e w' ⟨rfl, rfl⟩) | (go_at_call 8; refine (split_res a0 _ h).mono ?_; rintro e w' ⟨rfl, hb⟩) | go_in)
    go_ret
    exact ⟨by simp, by assumption⟩
  · by_cases h2 : a0.size ≤ 1048576
    · go_enter Try.func3, Try.ntmps3
      go_wp2
      go_ret
      exact ⟨rfl, Below.refl _ _⟩
    · go_enter Try.func3, Try.ntmps3
      go_wp2
      go_ret
      exact ⟨rfl, Below.refl _ _⟩

set_option maxRecDepth 100000 in
theorem lifted (os : Os) (started : os.Started) (H : Type) (enc : TypeId × Value → H) :
    ReturnsInHanded {} Try.checked os 3 .any (Rows.fnIDDigitsAgreesWithGroupSplitSpec.pre6 enc Try.prog Try.f3 Rows.fnIDDigitsAgreesWithGroupSplitRow.domain false) (Rows.fnIDDigitsAgreesWithGroupSplitSpec.post enc Try.prog Try.f3 false true false false) := by
  refine returnsInHanded_of_change (C := Try.checked) own started (by kernel_rfl) Try.func3
    (ChangeSpec.witness6 (enc := enc) (C := Try.checked) false ⟨#[], #[.string ByteArray.empty], []⟩ 8 (by kernel_rfl) (by kernel_rfl) (by kernel_rfl) (by kernel_rfl)) ?_
  intro W base args ds gs before hval0 hW hcnd _
  have hval : ∀ (j : Nat) t v, Try.f3.params[j]? = some t → args[j]? = some v → Value.okWide Try.prog W .any base t v := hval0
  have hW' := hW
  obtain ⟨p, q, hA0, hV, rfl, hfz, hnd⟩ := hW
  have hA : DataW.TrodAll enc Try.prog W 0 (fun _ => true) true Try.f3.params.toList args.toList ds p := hA0
  rw [Try.params3] at hA hval
  obtain ⟨v0, vs0, d0, ds0, p0, q0, hargs, rfl, rfl, h0, r0⟩ := trodAll_cons hA
  obtain ⟨rfl, rfl, rfl⟩ := trodAll_nil r0
  obtain rfl : args = #[v0] := by cases args; simp_all
  obtain ⟨rfl, rfl⟩ := trodVars_none hV
  obtain ⟨a0, rfl, rfl, rfl, w0⟩ := open_string Try.underlying9 (hval 0 9 v0 rfl rfl) h0
  clear hA0 hval0
  refine (walk a0 w0 W).mono fun e W' ⟨he, bel⟩ => ?_
  subst he
  exact ⟨_, rfl, _, _, _, [], [], [], hW', trodAll_mk1 (shut_bool Try.underlying4 _), (trodAll_cons_mk (shut_string Try.underlying9 w0) trodAll_mk0), rfl, bel.frame _, fun h => by cases h⟩

theorem over : Rows.fnIDDigitsAgreesWithGroupSplitRow.holds Try.pinned (OpenSpec.ofChange Rows.fnIDDigitsAgreesWithGroupSplitSpec) :=
  OpenClaim.holds_of_wide 3 Try.f3 rfl rfl rfl rfl rfl rfl rfl ⟨rfl, rfl, rfl, rfl, rfl⟩ rfl rfl rfl rfl rfl (by kernel_rfl) Try.func3 (by kernel_rfl)
    (of_decide_eq_true (by kernel_rfl)) (by unfold Func.isWrapper; first | (rw [if_pos (by decide +kernel)]; kernel_rfl) | (rw [if_neg (by decide +kernel)]; exact ⟨rfl, rfl⟩))
    (fun os started H enc _ => lifted os started H enc)

theorem proved : Rows.FnIDDigitsAgreesWithGroupSplitSaid := over
end Go.Proofs.Qxb6605179a.fnIDDigitsAgreesWithGroupSplit
