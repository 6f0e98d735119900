import Derived.Test.Qxb6605294aMat
set_option maxRecDepth 100000
namespace Go.Proofs.Qxb6605294a
open Go.ChangeShapes Go.WideShapes Go.ChangeAt Go.RowKit
set_option linter.unusedVariables false

set_option maxHeartbeats 2000000 in
theorem sameShape_yes (a1 a2 : Option Addr) (c1 c2 : Nat) (xss yss : List (List Int)) (w : World) (hm : xss.length ≤ 1048576) (hm2 : yss.length ≤ 1048576) (hx : Hid (∀ i, (xss.getD i []).length ≤ 1048576)) (he : Hid (∀ i, i < xss.length → (xss.getD i []).length = (yss.getD i []).length)) (R1 : Hid (LRow w a1 xss)) (R2 : Hid (LRow w a2 yss)) :
    Calls Try.prog 43 #[.slice a1 xss.length c1, .slice a2 yss.length c2, .int .i64 xss.length] w fun e w' => e = .returned (.bool true) ∧ Hid (Below w.heap.size w w') := by
  go_enter Try.func43, Try.ntmps43
  go_wp2_with fail
  go_loopw [7] (fun i wr => ∃ k : Nat, k ≤ xss.length ∧ i = .int .i64 k ∧ Hid (Below w.heap.size w wr)) (fun i _ => xss.length - (intOf i).toNat)
  case atStart => exact ⟨0, Nat.zero_le _, rfl, Below.refl _ _⟩
  case round =>
    obtain ⟨k, hk, rfl, HB⟩ := hrel
    by_cases hlt : k < xss.length
    · obtain ⟨b, off, ai, ci, xs, rfl, d1, hbl, RI, NI, HX, HD⟩ := R1.out.get HB.out hlt
      have hEk := he.out k hlt
      rw [HX.out] at hEk
      have hxk := hx.out k
      rw [HX.out] at hxk
      by_cases hl2 : k < yss.length
      · obtain ⟨b2, off2, ai2, ci2, ys, rfl, d2, hbl2, RI2, NI2, HX2, HD2⟩ := R2.out.get HB.out hl2
        rw [HX2.out] at hEk
        rw [hEk] at d1 hxk
        clear RI NI HX HD RI2 NI2 HX2 HD2 hEk
        go_wp2_with fail
        go_roundw
        case rel => exact ⟨k + 1, hlt, by go_num, HB⟩
        case measure => simp [intOf]; omega
      · have : yss.getD k [] = [] := by rw [List.getD_eq_getElem?_getD, List.getElem?_eq_none (by omega)]; rfl
        rw [this, List.length_nil] at hEk
        rw [hEk] at d1
        clear RI NI HX HD hEk this
        go_wp2_with fail
        go_roundw
        case rel => exact ⟨k + 1, hlt, by go_num, HB⟩
        case measure => simp [intOf]; omega
    · go_wp2_with fail
      go_ret
      exact ⟨rfl, HB⟩

theorem grown_len {gs ys : List Int} {k : Nat} (h : gs = ys.map flp ++ [(k : Int)]) : gs.length = ys.length + 1 := by rw [h]; simp
theorem grown_get {gs ys : List Int} {k j : Nat} (h : gs = ys.map flp ++ [(k : Int)]) (hj : j < ys.length) : gs.getD j 0 = flp (ys.getD j 0) := by
  rw [h, List.getD_eq_getElem?_getD, List.getD_eq_getElem?_getD, List.getElem?_append_left (by simpa using hj), List.getElem?_map, List.getElem?_eq_getElem hj]; rfl
theorem grown_last {gs ys : List Int} {k : Nat} (h : gs = ys.map flp ++ [(k : Int)]) : gs.getD ys.length 0 = (k : Int) := by
  rw [h, List.getD_eq_getElem?_getD, List.getElem?_append_right (by simp)]; simp
theorem IRow.at {w wr : World} {a : Option Addr} {xs : List Int} (h : IRow w a xs) (hb : Below w.heap.size w wr) {i : Nat} (hi : i < xs.length) : ∃ b off, a = some ⟨b, off, none⟩ ∧ wr.cell? ⟨b, off + i, none⟩ = some (.int .i64 (xs.getD i 0)) := by
  obtain ⟨b, off, z, e, hc, _, _, _, hz⟩ := Row.get h hb hi
  exact ⟨b, off, e, by rw [hz.out]; exact hc⟩
set_option maxHeartbeats 4000000 in
theorem flipped_yes (a1 a2 : Option Addr) (c1 c2 : Nat) (gss yss : List (List Int)) (w : World) (hm : gss.length ≤ 1048576) (hm2 : yss.length ≤ 1048576) (hy : Hid (∀ i, (yss.getD i []).length ≤ 1048576)) (he : Hid (∀ i, i < gss.length → gss.getD i [] = (yss.getD i []).map flp ++ [(i : Int)])) (R1 : Hid (LRow w a1 gss)) (R2 : Hid (LRow w a2 yss)) :
    Calls Try.prog 50 #[.slice a1 gss.length c1, .slice a2 yss.length c2, .int .i64 gss.length] w fun e w' => e = .returned (.bool true) ∧ Hid (Below w.heap.size w w') := by
  go_enter Try.func50, Try.ntmps50
  go_wp2_with fail
  go_loopw [7] (fun i wr => ∃ k : Nat, k ≤ gss.length ∧ i = .int .i64 k ∧ Hid (Below w.heap.size w wr)) (fun i _ => gss.length - (intOf i).toNat)
  case atStart => exact ⟨0, Nat.zero_le _, rfl, Below.refl _ _⟩
  case round =>
    obtain ⟨k, hk, rfl, HB⟩ := hrel
    by_cases hlt : k < gss.length
    · obtain ⟨b, off, ai, ci, gs, rfl, d1, hbl, RI, NI, HX, HD⟩ := R1.out.get HB.out hlt
      have hEk := he.out k hlt
      rw [HX.out] at hEk
      have hyk := hy.out k
      by_cases hl2 : k < yss.length
      · obtain ⟨b2, off2, ai2, ci2, ys, rfl, d2, hbl2, RI2, NI2, HX2, HD2⟩ := R2.out.get HB.out hl2
        rw [HX2.out] at hEk hyk
        have HG := hid hEk
        have hgl := grown_len hEk
        rw [hgl] at d1
        have HL := hid hgl
        clear NI HX HD NI2 HX2 HD2 hEk hgl
        obtain ⟨wq, hwq⟩ : ∃ x, x = wr := ⟨_, rfl⟩
        subst hwq
        go_wp2_with fail
        go_loopw [9] (fun i wr => ∃ jj : Nat, jj ≤ ys.length ∧ i = .int .i64 jj ∧ Hid (Below wq.heap.size wq wr)) (fun i _ => ys.length - (intOf i).toNat)
        case atStart => exact ⟨0, Nat.zero_le _, rfl, Below.refl _ _⟩
        case round =>
          obtain ⟨jj, hj, rfl, HJ⟩ := hrel
          have d1' := (HJ.out.cell (p := ⟨b, off + k, none⟩) (cell_lt' d1)).trans d1
          have d2' := (HJ.out.cell (p := ⟨b2, off2 + k, none⟩) (cell_lt' d2)).trans d2
          by_cases hjl : jj < ys.length
          · obtain ⟨b3, off3, rfl, q1⟩ := RI.out.at HJ.out (i := jj) (by rw [HL.out]; omega)
            obtain ⟨b4, off4, rfl, q2⟩ := RI2.out.at HJ.out hjl
            rw [grown_get HG.out hjl] at q1
            obtain ⟨y, hy0⟩ : ∃ y, y = ys.getD jj 0 := ⟨_, rfl⟩
            rw [← hy0] at q1 q2
            clear hy0 d1 d2
            unfold flp at q1
            go_wp2_with fail
            go_quiet (fail)
            go_wp2_with fail
            exact ⟨⟨jj + 1, hjl, by simp, below_drewN HJ.out _⟩, by simp [intOf]; omega⟩
          · have hje := hid (show jj = ys.length by omega)
            obtain ⟨b3, off3, rfl, q1⟩ := RI.out.at HJ.out (i := ys.length) (by rw [HL.out]; omega)
            rw [grown_last HG.out] at q1
            have D := hid (below_next HB.out HJ.out)
            clear d1 d2
            go_wp2_with fail
            exact ⟨⟨k + 1, hlt, by simp, D⟩, by simp [intOf]; omega⟩
      · have : yss.getD k [] = [] := by rw [List.getD_eq_getElem?_getD, List.getElem?_eq_none (by omega)]; rfl
        rw [this] at hEk
        simp only [List.map_nil, List.nil_append] at hEk
        subst hEk
        obtain ⟨b3, off3, rfl, q1⟩ := RI.out.at (Below.refl _ _) (i := 0) (by simp)
        simp only [List.getD_cons_zero, Nat.add_zero] at q1
        clear NI HX HD this RI
        obtain ⟨wq, hwq⟩ : ∃ x, x = wr := ⟨_, rfl⟩
        subst hwq
        go_wp2_with fail
        go_loopw [9] (fun i wr => i = .int .i64 0 ∧ wr = wq) (fun i _ => 0)
        case atStart => exact ⟨rfl, rfl⟩
        case round =>
          obtain ⟨rfl, rfl⟩ := hrel
          go_wp2_with fail
          exact ⟨⟨k + 1, hlt, by simp, HB⟩, by simp [intOf]; omega⟩
    · go_wp2_with fail
      go_ret
      exact ⟨rfl, HB⟩
end Go.Proofs.Qxb6605294a
