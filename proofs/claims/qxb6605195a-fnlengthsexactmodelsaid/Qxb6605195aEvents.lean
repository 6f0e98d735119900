import Derived.Test.Qxb6605195aWalk4
namespace Go.Proofs.Qxb6605195a
open Go.ChangeShapes Go.WideShapes Go.ChangeAt Go.RowKit Plain
set_option linter.unusedVariables false
set_option maxRecDepth 100000

/-! ### sortEvents -/
def le1 (a b : Int × Int) : Bool := decide (a.1 ≤ b.1)
theorem PairRow.take {k : IntKind} {w : World} {a : Option Addr} {xs : List (Int × Int)} (h : PairRow k w a xs) (m : Nat) : PairRow k w a (xs.take m) := by
  intro h0
  obtain ⟨b, off, e, hc⟩ := h (by simp at h0; omega)
  refine ⟨b, off, e, fun i hi => ?_⟩
  have := hc i (by simp at hi; omega)
  have e1 : (xs.take m).getD i (0, 0) = xs.getD i (0, 0) := by
    rw [List.getD_eq_getElem?_getD, List.getD_eq_getElem?_getD, List.getElem?_take]; simp at hi; rw [if_pos (by omega)]
  rw [e1]; exact this
theorem PairRow.drop {k : IntKind} {w : World} {b off : Nat} {xs : List (Int × Int)} (h : PairRow k w (some ⟨b, off, none⟩) xs) (m : Nat) : PairRow k w (some ⟨b, off + m * 2, none⟩) (xs.drop m) := by
  intro h0
  simp at h0
  obtain ⟨b', off', e, hc⟩ := h (by omega)
  simp only [Option.some.injEq, Addr.mk.injEq] at e
  obtain ⟨rfl, rfl, _⟩ := e
  refine ⟨b, off + m * 2, rfl, fun i hi => ?_⟩
  simp at hi
  have := hc (m + i) (by omega)
  have e1 : (xs.drop m).getD i (0, 0) = xs.getD (m + i) (0, 0) := by
    rw [List.getD_eq_getElem?_getD, List.getD_eq_getElem?_getD, List.getElem?_drop]
  rw [e1, show off + m * 2 + i * 2 = off + (m + i) * 2 from by omega]; exact this

theorem merge_a {A B : List (Int × Int)} {i j : Nat} {a b : Int × Int} (h1 : A.drop i = a :: A.drop (i + 1)) (h2 : B.drop j = b :: B.drop (j + 1)) (h : a.1 ≤ b.1) :
    List.merge (A.drop i) (B.drop j) le1 = a :: List.merge (A.drop (i + 1)) (B.drop j) le1 := by
  rw [h1, h2, List.cons_merge_cons, if_pos (by simp [le1, h])]
theorem merge_b {A B : List (Int × Int)} {i j : Nat} {a b : Int × Int} (h1 : A.drop i = a :: A.drop (i + 1)) (h2 : B.drop j = b :: B.drop (j + 1)) (h : ¬ a.1 ≤ b.1) :
    List.merge (A.drop i) (B.drop j) le1 = b :: List.merge (A.drop i) (B.drop (j + 1)) le1 := by
  rw [h1, h2, List.cons_merge_cons, if_neg (by simp [le1]; omega)]
theorem merge_a_end {A B : List (Int × Int)} {i j : Nat} {a : Int × Int} (h1 : A.drop i = a :: A.drop (i + 1)) (h2 : B.length ≤ j) :
    List.merge (A.drop i) (B.drop j) le1 = a :: List.merge (A.drop (i + 1)) (B.drop j) le1 := by
  rw [List.drop_of_length_le h2, List.merge_right, List.merge_right, h1]
theorem merge_b_end {A B : List (Int × Int)} {i j : Nat} {b : Int × Int} (h1 : A.length ≤ i) (h2 : B.drop j = b :: B.drop (j + 1)) :
    List.merge (A.drop i) (B.drop j) le1 = b :: List.merge (A.drop i) (B.drop (j + 1)) le1 := by
  rw [List.drop_of_length_le h1, List.nil_merge, List.nil_merge, h2]

/-- the merge loop's relation -/
def RelM (w2 : World) (A B R : List (Int × Int)) (v ii jj : Value) (wr : World) : Prop :=
  ∃ (i j : Nat) (out : List (Int × Int)), ii = .int .i64 i ∧ jj = .int .i64 j ∧ i ≤ A.length ∧ j ≤ B.length ∧ out.length = i + j ∧ wr.ownsRow w2.heap.size 66 2 v out.length (flat .i64 out) ∧ Below w2.heap.size w2 wr ∧ out ++ List.merge (A.drop i) (B.drop j) le1 = R

def RetSorted (xs : List (Int × Int)) (e : Ending) (w' : World) : Prop := ∃ ys, RetPairs .i64 ys e w' ∧ ys.Perm xs ∧ ys.Pairwise (fun a b => a.1 ≤ b.1)

set_option maxHeartbeats 2000000 in
theorem sort_short (a : Option Addr) (cap : Nat) (xs : List (Int × Int)) (w : World) (hm : xs.length < 2) (hr : Hid (PairRow .i64 w a xs)) :
    Calls Try.prog 32 #[.slice a xs.length cap] w fun e w' => RetPairs .i64 xs e w' ∧ Below w.heap.size w w' := by
  obtain ⟨i0, hi0, hz0, hz1, hz2⟩ := info_parts Try.info66
  have hm2 : decide ((xs.length : Int) < 2) = true := by simp; omega
  go_enter Try.func32, Try.ntmps32
  go_wp2_with fail
  go_loopw [3, 17] (fun v i wr => ∃ k : Nat, k ≤ xs.length ∧ i = .int .i64 k ∧ Hid (wr.ownsRow w.heap.size 66 2 v (xs.take k).length (flat .i64 (xs.take k))) ∧ Hid (Below w.heap.size w wr)) (fun _ i _ => xs.length - (intOf i).toNat)
  case atStart => exact ⟨0, Nat.zero_le _, rfl, World.ownsRow_nil _ _ _ _, Below.refl _ _⟩
  case round =>
    obtain ⟨k, hk, rfl, HO, HB⟩ := hrel
    by_cases hlt : k < xs.length
    · obtain ⟨b, off, lo, hi, rfl, c1, c2, hbl, HX, HM⟩ := hr.out.get HB.out hlt
      have hsz := HB.out.size
      have hln : (xs.take k).length ≤ 1048575 := by simp; omega
      go_wp2_with (at_builtin; refine wpList_append_own _ rfl (.tmp 21) (.tmp 23) 64 rfl w.heap.size 66 i0 (.agg #[.int .i64 0, .int .i64 0]) 2 16 Try.underlying64 hi0 hz0 hz1 hz2 rfl (by decide) _ _ _ rfl ((HO.out.alloc _).alloc _) ⟨wr.heap.size + 1, 0, none⟩ 1 1 [.int .i64 lo, .int .i64 hi] rfl rfl (two_new_at _ _ _ _ _ (by simp)) (two_one _ _ _) (by unfold maxLen; omega) (by omega) (by simp; omega) ?_; intro v1 w1 hown1 hgrow1 hnil1)
      have HO1 : Hid (w1.ownsRow w.heap.size 66 2 v1 (xs.take (k + 1)).length (flat .i64 (xs.take (k + 1)))) := by rw [take_snoc HX.out]; exact own_push hown1
      have HB1 : Hid (Below w.heap.size w w1) := below_push ((HB.out.alloc hsz _).alloc (by simp; omega) _) ((HO.out.alloc _).alloc _) hgrow1 (by simp; omega)
      clear hown1 hgrow1 hnil1
      go_wp2_with fail
      go_roundw
      case rel => exact ⟨k + 1, hlt, by go_num, HO1, HB1⟩
      case measure => simp [intOf]; omega
    · go_wp2_with fail
      go_ret
      rw [List.take_of_length_le (by omega)] at HO
      exact ⟨retPairs_own HO.out, HB.out⟩

set_option maxHeartbeats 4000000 in
theorem sort_any (n : Nat) : ∀ (a : Option Addr) (cap : Nat) (xs : List (Int × Int)) (w : World), xs.length ≤ n → xs.length ≤ 1048576 → xs.length ≤ cap → Hid (PairRow .i64 w a xs) →
    Calls Try.prog 32 #[.slice a xs.length cap] w fun e w' => RetSorted xs e w' ∧ Below w.heap.size w w' := by
  induction n with
  | zero =>
    intro a cap xs w h0 hm hc hr
    refine (sort_short a cap xs w (by omega) hr).mono ?_
    rintro e w' ⟨h1, h2⟩
    have : xs = [] := List.length_eq_zero_iff.mp (by omega)
    exact ⟨⟨xs, h1, List.Perm.refl _, by rw [this]; exact List.Pairwise.nil⟩, h2⟩
  | succ n ih =>
    intro a cap xs w h0 hm hc hr
    by_cases h2 : xs.length < 2
    · refine (sort_short a cap xs w h2 hr).mono ?_
      rintro e w' ⟨h1, h3⟩
      refine ⟨⟨xs, h1, List.Perm.refl _, ?_⟩, h3⟩
      match xs, h2 with
      | [], _ => exact List.Pairwise.nil
      | [x], _ => exact List.pairwise_singleton _ _
    · obtain ⟨i0, hi0, hz0, hz1, hz2⟩ := info_parts Try.info66
      obtain ⟨b, off, rfl, _⟩ := hr.out (by omega)
      have hm2 : decide ((xs.length : Int) < 2) = false := by simp; omega
      have hmid : xs.length / 2 < xs.length := by omega
      have c1 := ih (some ⟨b, off, none⟩) cap (xs.take (xs.length / 2)) w (by simp; omega) (by simp; omega) (by simp; omega) (hr.out.take _)
      have el : (xs.take (xs.length / 2)).length = xs.length / 2 := by simp; omega
      rw [el] at c1
      have C1 := hid c1
      clear c1 el
      go_enter Try.func32, Try.ntmps32
      go_wp2_with fail
      refine C1.out.mono ?_
      rintro e w1 ⟨⟨A, ⟨a1, ca1, rfl, R1, hc1, _⟩, PA, SA⟩, B1⟩
      have lA : A.length ≤ 1048576 := by rw [PA.length_eq]; simp; omega
      have HR1 := hid R1
      have HPA := hid PA
      have HSA := hid SA
      have HB1 := hid B1
      clear R1 PA SA B1
      go_wp2_with fail
      have c2 := ih (some ⟨b, off + xs.length / 2 * 2, none⟩) (cap - xs.length / 2) (xs.drop (xs.length / 2)) w1 (by simp; omega) (by simp; omega) (by simp; omega) ((hr.out.below HB1.out).drop _)
      have el2 : (xs.drop (xs.length / 2)).length = xs.length - xs.length / 2 := by simp
      rw [el2] at c2
      refine c2.mono ?_
      clear c2 el2
      rintro e w2 ⟨⟨B, ⟨a2, ca2, rfl, R2, hc2, _⟩, PB, SB⟩, B2⟩
      have lB : B.length = xs.length - xs.length / 2 := by rw [PB.length_eq]; simp
      have lA2 : A.length = xs.length / 2 := by rw [HPA.out.length_eq]; simp; omega
      have LA : A.length + B.length ≤ 1048576 := by omega
      have HRB := hid R2
      have HRA := hid (HR1.out.below B2)
      have HPB := hid PB
      have HSB := hid SB
      have HB2 := hid B2
      obtain ⟨R, HRR⟩ : ∃ R, Hid (List.merge A B le1 = R) := ⟨_, rfl⟩
      clear R2 PB SB B2 lB lA2 C1
      go_wp2_with fail
      go_loopw [9, 10, 11] (RelM w2 A B R) (fun _ i j _ => A.length + B.length - ((intOf i).toNat + (intOf j).toNat))
      case atStart => exact ⟨0, 0, [], rfl, rfl, Nat.zero_le _, Nat.zero_le _, rfl, World.ownsRow_nil _ _ _ _, Below.refl _ _, HRR.out⟩
      case round =>
        obtain ⟨i, j, out, rfl, rfl, hi, hj, ho, HO0, HB0, HN0⟩ := hrel
        have HO := hid HO0
        have HB := hid HB0
        have hsz := HB0.size
        clear HO0 HB0 ih
        by_cases hi' : i < A.length
        · obtain ⟨p1, o1, x1, y1, rfl, d1, d2, _, HX1, _⟩ := HRA.out.get HB.out hi'
          have gi : (i : Int) < (A.length : Int) := by omega
          by_cases hj' : j < B.length
          · obtain ⟨p2, o2, x2, y2, rfl, d3, d4, _, HX2, _⟩ := HRB.out.get HB.out hj'
            have gj : decide ((B.length : Int) ≤ (j : Int)) = false := by simp; omega
            have gj2 : decide (B.length ≤ j) = false := by simp; omega
            by_cases hle : x1 ≤ x2
            · have HN := hid (show (out ++ [(x1, y1)]) ++ List.merge (A.drop (i + 1)) (B.drop j) le1 = R by rw [← HN0, merge_a HX1.out HX2.out hle]; simp)
              clear HN0 HX1 HX2
              go_wp2_with fail
              go_quiet (fail)
              go_wp2_with (at_builtin; refine wpList_append_own _ rfl (.tmp 71) (.tmp 76) 64 rfl w2.heap.size 66 i0 (.agg #[.int .i64 0, .int .i64 0]) 2 16 Try.underlying64 hi0 hz0 hz1 hz2 rfl (by decide) _ _ _ rfl (HO.out.alloc _) ⟨wr.heap.size, 0, none⟩ 1 1 [.int .i64 x1, .int .i64 y1] rfl rfl (two_new_at _ _ _ _ _ (by simp)) (two_one _ _ _) (by unfold maxLen; omega) (by omega) (by simp; omega) ?_; intro v1 w3 hown1 hgrow1 hnil1)
              have HO1 := hid (own_push hown1)
              have HB1 := hid (below_push ((below_drewN HB.out nq).alloc hsz _) ((show (wr.drewN nq).ownsRow _ _ _ _ _ _ from HO.out).alloc _) hgrow1 (by simp; omega))
              clear hown1 hgrow1 hnil1
              go_wp2_with fail
              go_roundw
              case rel => exact ⟨i + 1, j, _, by go_num, rfl, hi', hj, by simp; omega, HO1.out, HB1.out, HN.out⟩
              case measure => simp [intOf]; omega
            · have hd : decide (x1 ≤ x2) = false := by simpa using hle
              have HN := hid (show (out ++ [(x2, y2)]) ++ List.merge (A.drop i) (B.drop (j + 1)) le1 = R by rw [← HN0, merge_b HX1.out HX2.out hle]; simp)
              clear HN0 HX1 HX2
              go_wp2_with fail
              go_quiet (fail)
              go_wp2_with (at_builtin; refine wpList_append_own _ rfl (.tmp 80) (.tmp 85) 64 rfl w2.heap.size 66 i0 (.agg #[.int .i64 0, .int .i64 0]) 2 16 Try.underlying64 hi0 hz0 hz1 hz2 rfl (by decide) _ _ _ rfl (HO.out.alloc _) ⟨wr.heap.size, 0, none⟩ 1 1 [.int .i64 x2, .int .i64 y2] rfl rfl (two_new_at _ _ _ _ _ (by simp)) (two_one _ _ _) (by unfold maxLen; omega) (by omega) (by simp; omega) ?_; intro v1 w3 hown1 hgrow1 hnil1)
              have HO1 := hid (own_push hown1)
              have HB1 := hid (below_push ((below_drewN HB.out nq).alloc hsz _) ((show (wr.drewN nq).ownsRow _ _ _ _ _ _ from HO.out).alloc _) hgrow1 (by simp; omega))
              clear hown1 hgrow1 hnil1
              go_wp2_with fail
              go_roundw
              case rel => exact ⟨i, j + 1, _, rfl, by go_num, hi, hj', by simp; omega, HO1.out, HB1.out, HN.out⟩
              case measure => simp [intOf]; omega
          · have gj : (B.length : Int) ≤ (j : Int) := by omega
            have HN := hid (show (out ++ [(x1, y1)]) ++ List.merge (A.drop (i + 1)) (B.drop j) le1 = R by rw [← HN0, merge_a_end HX1.out (by omega)]; simp)
            clear HN0 HX1
            go_wp2_with fail
            go_quiet (fail)
            go_wp2_with (at_builtin; refine wpList_append_own _ rfl (.tmp 71) (.tmp 76) 64 rfl w2.heap.size 66 i0 (.agg #[.int .i64 0, .int .i64 0]) 2 16 Try.underlying64 hi0 hz0 hz1 hz2 rfl (by decide) _ _ _ rfl (HO.out.alloc _) ⟨wr.heap.size, 0, none⟩ 1 1 [.int .i64 x1, .int .i64 y1] rfl rfl (two_new_at _ _ _ _ _ (by simp)) (two_one _ _ _) (by unfold maxLen; omega) (by omega) (by simp; omega) ?_; intro v1 w3 hown1 hgrow1 hnil1)
            have HO1 := hid (own_push hown1)
            have HB1 := hid (below_push ((below_drewN HB.out nq).alloc hsz _) ((show (wr.drewN nq).ownsRow _ _ _ _ _ _ from HO.out).alloc _) hgrow1 (by simp; omega))
            clear hown1 hgrow1 hnil1
            go_wp2_with fail
            go_roundw
            case rel => exact ⟨i + 1, j, _, by go_num, rfl, hi', hj, by simp; omega, HO1.out, HB1.out, HN.out⟩
            case measure => simp [intOf]; omega
        · have gi : decide ((i : Int) < (A.length : Int)) = false := by simp; omega
          have gi2 : decide (i < A.length) = false := by simp; omega
          by_cases hj' : j < B.length
          · obtain ⟨p2, o2, x2, y2, rfl, d3, d4, _, HX2, _⟩ := HRB.out.get HB.out hj'
            have gj : decide ((B.length : Int) ≤ (j : Int)) = false := by simp; omega
            have gj2 : decide (B.length ≤ j) = false := by simp; omega
            have HN := hid (show (out ++ [(x2, y2)]) ++ List.merge (A.drop i) (B.drop (j + 1)) le1 = R by rw [← HN0, merge_b_end (by omega) HX2.out]; simp)
            clear HN0 HX2
            go_wp2_with fail
            go_quiet (fail)
            go_wp2_with (at_builtin; refine wpList_append_own _ rfl (.tmp 80) (.tmp 85) 64 rfl w2.heap.size 66 i0 (.agg #[.int .i64 0, .int .i64 0]) 2 16 Try.underlying64 hi0 hz0 hz1 hz2 rfl (by decide) _ _ _ rfl (HO.out.alloc _) ⟨wr.heap.size, 0, none⟩ 1 1 [.int .i64 x2, .int .i64 y2] rfl rfl (two_new_at _ _ _ _ _ (by simp)) (two_one _ _ _) (by unfold maxLen; omega) (by omega) (by simp; omega) ?_; intro v1 w3 hown1 hgrow1 hnil1)
            have HO1 := hid (own_push hown1)
            have HB1 := hid (below_push ((below_drewN HB.out nq).alloc hsz _) ((show (wr.drewN nq).ownsRow _ _ _ _ _ _ from HO.out).alloc _) hgrow1 (by simp; omega))
            clear hown1 hgrow1 hnil1
            go_wp2_with fail
            go_roundw
            case rel => exact ⟨i, j + 1, _, rfl, by go_num, hi, hj', by simp; omega, HO1.out, HB1.out, HN.out⟩
            case measure => simp [intOf]; omega
          · have HN : out = R := by rw [← HN0, List.drop_of_length_le (by omega), List.drop_of_length_le (by omega)]; simp
            subst HN
            clear HN0
            go_wp2_with fail
            go_ret
            refine ⟨⟨out, retPairs_own HO.out, ?_, ?_⟩, ?_⟩
            · rw [← HRR.out]
              exact (List.merge_perm_append _).trans ((HPA.out.append HPB.out).trans (by rw [List.take_append_drop]))
            · have := List.pairwise_merge (le := le1) (fun a b c h1 h2 => by simp [le1] at *; omega) (fun a b => by simp [le1]; omega) A B (HSA.out.imp (fun h => by simpa [le1] using h)) (HSB.out.imp (fun h => by simpa [le1] using h))
              rw [← HRR.out]
              exact this.imp (fun h => by simpa [le1] using h)
            · exact HB1.out.trans ((HB2.out.trans (HB.out.mono HB2.out.size)).mono HB1.out.size)
end Go.Proofs.Qxb6605195a
