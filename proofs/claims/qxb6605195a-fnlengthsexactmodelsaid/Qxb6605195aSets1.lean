import Derived.Test.Qxb6605195aSums
import Derived.Test.Qxb6605195aLens
set_option maxRecDepth 100000
namespace Go.Proofs.Qxb6605195a
open Go.ChangeShapes Go.WideShapes Go.ChangeAt Go.RowKit Plain
set_option linter.unusedVariables false

/-- a row of ints, handed back -/
def RetRow (B : Nat) (L : List Int) (e : Ending) (w' : World) : Prop := ∃ a c, e = .returned (.slice a L.length c) ∧ L.length ≤ c ∧ Hid (IntRow .i64 w' a L) ∧ Hid (a = none → L = [] ∧ c = 0) ∧ Hid (∀ x, a = some x → B ≤ x.block)
theorem retRow_own {B : Nat} {L : List Int} {v : Value} {w' : World} (h : w'.ownsRow B 3 1 v L.length (L.map (Value.int .i64))) : RetRow B L (.returned v) w' := by
  obtain ⟨hl, ⟨rfl, h0⟩ | ⟨g, cap, cur, rfl, hb, hh, h1, h2, h3, h4⟩⟩ := h
  · have := List.length_eq_zero_iff.1 h0
    subst this
    exact ⟨none, 0, rfl, by simp, fun h => absurd h (by simp), fun _ => ⟨rfl, rfl⟩, fun x h => (by cases h)⟩
  · obtain ⟨a, c, e, hI⟩ := intRow_own (k := .i64) (zs := L) ⟨hl, .inr ⟨g, cap, cur, rfl, hb, hh, h1, h2, h3, h4⟩⟩
    injection e with e1 e2 e3
    subst e1 e3
    exact ⟨_, _, rfl, h1, hI, fun h => (by cases h), fun x h => (by cases h; exact hb)⟩
theorem retRow_len {B : Nat} {L L' : List Int} {e : Ending} {w' : World} (h : RetRow B L e w') (he : L = L') : RetRow B L' e w' := by subst he; exact h
theorem ownI_push {w' : World} {B : Nat} {v' : Value} {zs : List Int} {z : Int} (h : w'.ownsRow B 3 1 v' (zs.length + 1) (zs.map (Value.int .i64) ++ [.int .i64 z])) : w'.ownsRow B 3 1 v' (zs ++ [z]).length ((zs ++ [z]).map (Value.int .i64)) := by
  rw [List.map_append, List.length_append]; exact h

/-! ### the union of two increasing lists -/
def mrg : List Int → List Int → List Int
  | [], ys => ys
  | x :: xs, [] => x :: xs
  | x :: xs, y :: ys => if x < y then x :: mrg xs (y :: ys) else if y < x then y :: mrg (x :: xs) ys else x :: mrg xs ys
termination_by xs ys => xs.length + ys.length
theorem mrg_nil (xs : List Int) : mrg xs [] = xs := by cases xs <;> simp [mrg]
theorem mrg_mem : ∀ (n : Nat) (X Y : List Int), X.length + Y.length ≤ n → ∀ z, z ∈ mrg X Y ↔ z ∈ X ∨ z ∈ Y
  | _, [], ys, _, z => by simp [mrg]
  | _, x :: xs, [], _, z => by simp [mrg]
  | 0, x :: xs, y :: ys, h, z => by simp at h
  | n + 1, x :: xs, y :: ys, h, z => by
    simp only [List.length_cons] at h
    unfold mrg
    split
    · simp only [List.mem_cons, mrg_mem n xs (y :: ys) (by simp; omega), or_assoc]
    · split
      · simp only [List.mem_cons, mrg_mem n (x :: xs) ys (by simp; omega)]
        constructor
        · rintro (h | h | h)
          · exact .inr (.inl h)
          · exact .inl h
          · exact .inr (.inr h)
        · rintro (h | h | h)
          · exact .inr (.inl h)
          · exact .inl h
          · exact .inr (.inr h)
      · have : x = y := by omega
        subst this
        simp only [List.mem_cons, mrg_mem n xs ys (by omega)]
        constructor
        · rintro (h | h | h)
          · exact .inl (.inl h)
          · exact .inl (.inr h)
          · exact .inr (.inr h)
        · rintro ((h | h) | (h | h))
          · exact .inl h
          · exact .inr (.inl h)
          · exact .inl h
          · exact .inr (.inr h)
theorem mrg_inc : ∀ (n : Nat) (X Y : List Int), X.length + Y.length ≤ n → Inc X → Inc Y → Inc (mrg X Y)
  | _, [], ys, _, _, h => by simpa [mrg] using h
  | _, x :: xs, [], _, h, _ => by simpa [mrg] using h
  | 0, x :: xs, y :: ys, h, _, _ => by simp at h
  | n + 1, x :: xs, y :: ys, h, hX, hY => by
    simp only [List.length_cons] at h
    have hX' := hX
    have hY' := hY
    unfold Inc at hX hY
    rw [List.pairwise_cons] at hX hY
    unfold mrg
    split
    · refine List.pairwise_cons.2 ⟨fun z hz => ?_, mrg_inc n xs (y :: ys) (by simp; omega) hX.2 hY'⟩
      rcases (mrg_mem _ _ _ (Nat.le_refl _) z).1 hz with h1 | h1
      · exact hX.1 z h1
      · rcases List.mem_cons.1 h1 with h2 | h2
        · omega
        · have := hY.1 z h2; omega
    · split
      · refine List.pairwise_cons.2 ⟨fun z hz => ?_, mrg_inc n (x :: xs) ys (by simp; omega) hX' hY.2⟩
        rcases (mrg_mem _ _ _ (Nat.le_refl _) z).1 hz with h1 | h1
        · rcases List.mem_cons.1 h1 with h2 | h2
          · omega
          · have := hX.1 z h2; omega
        · exact hY.1 z h1
      · refine List.pairwise_cons.2 ⟨fun z hz => ?_, mrg_inc n xs ys (by omega) hX.2 hY.2⟩
        rcases (mrg_mem _ _ _ (Nat.le_refl _) z).1 hz with h1 | h1
        · exact hX.1 z h1
        · have := hY.1 z h1; omega
theorem mrg_len : ∀ (n : Nat) (X Y : List Int), X.length + Y.length ≤ n → (mrg X Y).length ≤ X.length + Y.length
  | _, [], ys, _ => by simp [mrg]
  | _, x :: xs, [], _ => by simp [mrg]
  | 0, x :: xs, y :: ys, h => by simp at h
  | n + 1, x :: xs, y :: ys, h => by
    simp only [List.length_cons] at h
    unfold mrg
    split
    · have := mrg_len n xs (y :: ys) (by simp; omega)
      simp only [List.length_cons] at this ⊢; omega
    · split
      · have := mrg_len n (x :: xs) ys (by simp; omega)
        simp only [List.length_cons] at this ⊢; omega
      · have := mrg_len n xs ys (by omega)
        simp only [List.length_cons] at this ⊢; omega
theorem mrg_a {A B : List Int} {i j : Nat} {a b : Int} (h1 : A.drop i = a :: A.drop (i + 1)) (h2 : B.drop j = b :: B.drop (j + 1)) (h : a < b) : mrg (A.drop i) (B.drop j) = a :: mrg (A.drop (i + 1)) (B.drop j) := by
  rw [h1, h2, mrg, if_pos h]
theorem mrg_b {A B : List Int} {i j : Nat} {a b : Int} (h1 : A.drop i = a :: A.drop (i + 1)) (h2 : B.drop j = b :: B.drop (j + 1)) (h : b < a) : mrg (A.drop i) (B.drop j) = b :: mrg (A.drop i) (B.drop (j + 1)) := by
  rw [h1, h2, mrg, if_neg (by omega), if_pos h]
theorem mrg_ab {A B : List Int} {i j : Nat} {a b : Int} (h1 : A.drop i = a :: A.drop (i + 1)) (h2 : B.drop j = b :: B.drop (j + 1)) (h : a = b) : mrg (A.drop i) (B.drop j) = a :: mrg (A.drop (i + 1)) (B.drop (j + 1)) := by
  rw [h1, h2, mrg, if_neg (by omega), if_neg (by omega)]
theorem mrg_a_end {A B : List Int} {i j : Nat} {a : Int} (h1 : A.drop i = a :: A.drop (i + 1)) (h2 : B.length ≤ j) : mrg (A.drop i) (B.drop j) = a :: mrg (A.drop (i + 1)) (B.drop j) := by
  rw [List.drop_of_length_le h2, mrg_nil, mrg_nil, h1]
theorem mrg_b_end {A B : List Int} {i j : Nat} {b : Int} (h1 : A.length ≤ i) (h2 : B.drop j = b :: B.drop (j + 1)) : mrg (A.drop i) (B.drop j) = b :: mrg (A.drop i) (B.drop (j + 1)) := by
  rw [List.drop_of_length_le h1, mrg, mrg, h2]

def RelU (w : World) (A B R : List Int) (v ii jj : Value) (wr : World) : Prop :=
  ∃ (i j : Nat) (out : List Int), ii = .int .i64 i ∧ jj = .int .i64 j ∧ i ≤ A.length ∧ j ≤ B.length ∧ out.length ≤ i + j ∧ wr.ownsRow w.heap.size 3 1 v out.length (out.map (Value.int .i64)) ∧ Below w.heap.size w wr ∧ out ++ mrg (A.drop i) (B.drop j) = R

set_option maxHeartbeats 4000000 in
theorem merge_any (a1 a2 : Option Addr) (c1 c2 : Nat) (A B : List Int) (w : World) (hA : A.length ≤ 100000000) (hBl : B.length ≤ 100000000) (HRA : Hid (IntRow .i64 w a1 A)) (HRB : Hid (IntRow .i64 w a2 B)) :
    Calls Try.prog 47 #[.slice a1 A.length c1, .slice a2 B.length c2] w fun e w' => RetRow w.heap.size (mrg A B) e w' ∧ Hid (Below w.heap.size w w') := by
  obtain ⟨i0, hi0, hz0, hz1, hz2⟩ := info_parts Try.info3
  obtain ⟨R, HRR⟩ : ∃ R, Hid (mrg A B = R) := ⟨_, rfl⟩
  rw [HRR.out]
  go_enter Try.func47, Try.ntmps47
  go_wp2_with fail
  go_loopw [5, 6, 7] (RelU w A B R) (fun _ i j _ => A.length + B.length - ((intOf i).toNat + (intOf j).toNat))
  case atStart => exact ⟨0, 0, [], rfl, rfl, Nat.zero_le _, Nat.zero_le _, by simp, World.ownsRow_nil _ _ _ _, Below.refl _ _, HRR.out⟩
  case round =>
    obtain ⟨i, j, out, rfl, rfl, hi, hj, ho, HO0, HB0, HN0⟩ := hrel
    have HO := hid HO0
    have HB := hid HB0
    have hsz := HB0.size
    clear HO0 HB0
    by_cases hi' : i < A.length
    · obtain ⟨p1, o1, x1, rfl, d1, _, HX1, _, _⟩ := HRA.out.get HB.out hi'
      have gi : (i : Int) < (A.length : Int) := by omega
      by_cases hj' : j < B.length
      · obtain ⟨p2, o2, x2, rfl, d2, _, HX2, _, _⟩ := HRB.out.get HB.out hj'
        have gj : decide ((B.length : Int) ≤ (j : Int)) = false := by simp; omega
        have gj2 : decide (B.length ≤ j) = false := by simp; omega
        have gi3 : decide ((A.length : Int) ≤ (i : Int)) = false := by simp; omega
        have gi4 : decide (A.length ≤ i) = false := by simp; omega
        by_cases hlt : x1 < x2
        · have HN := hid (show (out ++ [x1]) ++ mrg (A.drop (i + 1)) (B.drop j) = R by rw [← HN0, mrg_a HX1.out HX2.out hlt]; simp)
          clear HN0 HX1 HX2
          go_wp2_with fail
          go_quiet (fail)
          go_wp2_with (at_builtin; refine wpList_append_own _ rfl (.tmp 39) (.tmp 44) 47 rfl w.heap.size 3 i0 (.int .i64 0) 1 8 Try.underlying47 hi0 hz0 hz1 hz2 rfl (by decide) _ _ _ rfl (HO.out.alloc _) ⟨wr.heap.size, 0, none⟩ 1 1 [.int .i64 x1] rfl rfl (one_new_at _ _ _ _ (by simp)) (one_i64 _) (by unfold maxLen; omega) (by omega) (by simp; omega) ?_; intro v1 w3 hown1 hgrow1 hnil1)
          have HO1 := hid (ownI_push hown1)
          have HB1 := hid (below_push ((below_drewN HB.out nq).alloc hsz _) ((show (wr.drewN nq).ownsRow _ _ _ _ _ _ from HO.out).alloc _) hgrow1 (by simp; omega))
          clear hown1 hgrow1 hnil1
          go_wp2_with fail
          go_roundw
          case rel => exact ⟨i + 1, j, _, by go_num, rfl, hi', hj, by simp; omega, HO1.out, HB1.out, HN.out⟩
          case measure => simp [intOf]; omega
        · have hd : decide (x1 < x2) = false := by simpa using hlt
          by_cases hgt : x2 < x1
          · have hd2 : decide (x2 < x1) = true := by simpa using hgt
            have HN := hid (show (out ++ [x2]) ++ mrg (A.drop i) (B.drop (j + 1)) = R by rw [← HN0, mrg_b HX1.out HX2.out hgt]; simp)
            clear HN0 HX1 HX2
            go_wp2_with fail
            go_quiet (fail)
            obtain ⟨wq, hwq⟩ : ∃ x, x = wr.drewN nq := ⟨_, rfl⟩
            have HBq : Hid (Below w.heap.size w wq) := by rw [hwq]; exact below_drewN HB.out nq
            have HOq : Hid (wq.ownsRow w.heap.size 3 1 u5 out.length (out.map (Value.int .i64))) := by rw [hwq]; exact HO.out
            have g1 : wq.cell? ⟨p1, o1 + i, none⟩ = some (.int .i64 x1) := by rw [hwq]; exact d1
            have g2 : wq.cell? ⟨p2, o2 + j, none⟩ = some (.int .i64 x2) := by rw [hwq]; exact d2
            have hsq : w.heap.size ≤ wq.heap.size := by rw [hwq]; exact hsz
            rw [← hwq]
            clear hwq d1 d2
            go_wp2_with fail
            go_quiet (fail)
            go_wp2_with (at_builtin; refine wpList_append_own _ rfl (.tmp 63) (.tmp 68) 47 rfl w.heap.size 3 i0 (.int .i64 0) 1 8 Try.underlying47 hi0 hz0 hz1 hz2 rfl (by decide) _ _ _ rfl (HOq.out.alloc _) ⟨wq.heap.size, 0, none⟩ 1 1 [.int .i64 x2] rfl rfl (one_new_at _ _ _ _ (by simp)) (one_i64 _) (by unfold maxLen; omega) (by omega) (by simp; omega) ?_; intro v1 w3 hown1 hgrow1 hnil1)
            have HO1 := hid (ownI_push hown1)
            have HB1 := hid (below_push ((below_drewN HBq.out nq).alloc hsq _) ((show (wq.drewN nq).ownsRow _ _ _ _ _ _ from HOq.out).alloc _) hgrow1 (by simp; omega))
            clear hown1 hgrow1 hnil1
            go_wp2_with fail
            go_roundw
            case rel => exact ⟨i, j + 1, _, rfl, by go_num, hi, hj', by simp; omega, HO1.out, HB1.out, HN.out⟩
            case measure => simp [intOf]; omega
          · have heq : x1 = x2 := by omega
            have hd2 : decide (x2 < x1) = false := by simpa using hgt
            have HN := hid (show (out ++ [x1]) ++ mrg (A.drop (i + 1)) (B.drop (j + 1)) = R by rw [← HN0, mrg_ab HX1.out HX2.out heq]; simp)
            clear HN0 HX1 HX2 heq
            go_wp2_with fail
            go_quiet (fail)
            obtain ⟨wq, hwq⟩ : ∃ x, x = wr.drewN nq := ⟨_, rfl⟩
            have HBq : Hid (Below w.heap.size w wq) := by rw [hwq]; exact below_drewN HB.out nq
            have HOq : Hid (wq.ownsRow w.heap.size 3 1 u5 out.length (out.map (Value.int .i64))) := by rw [hwq]; exact HO.out
            have g1 : wq.cell? ⟨p1, o1 + i, none⟩ = some (.int .i64 x1) := by rw [hwq]; exact d1
            have g2 : wq.cell? ⟨p2, o2 + j, none⟩ = some (.int .i64 x2) := by rw [hwq]; exact d2
            have hsq : w.heap.size ≤ wq.heap.size := by rw [hwq]; exact hsz
            rw [← hwq]
            clear hwq d1 d2
            go_wp2_with fail
            go_quiet (fail)
            go_wp2_with (at_builtin; refine wpList_append_own _ rfl (.tmp 72) (.tmp 77) 47 rfl w.heap.size 3 i0 (.int .i64 0) 1 8 Try.underlying47 hi0 hz0 hz1 hz2 rfl (by decide) _ _ _ rfl (HOq.out.alloc _) ⟨wq.heap.size, 0, none⟩ 1 1 [.int .i64 x1] rfl rfl (one_new_at _ _ _ _ (by simp)) (one_i64 _) (by unfold maxLen; omega) (by omega) (by simp; omega) ?_; intro v1 w3 hown1 hgrow1 hnil1)
            have HO1 := hid (ownI_push hown1)
            have HB1 := hid (below_push ((below_drewN HBq.out nq).alloc hsq _) ((show (wq.drewN nq).ownsRow _ _ _ _ _ _ from HOq.out).alloc _) hgrow1 (by simp; omega))
            clear hown1 hgrow1 hnil1
            go_wp2_with fail
            go_roundw
            case rel => exact ⟨i + 1, j + 1, _, by go_num, by go_num, hi', hj', by simp; omega, HO1.out, HB1.out, HN.out⟩
            case measure => simp [intOf]; omega
      · have gj : (B.length : Int) ≤ (j : Int) := by omega
        have HN := hid (show (out ++ [x1]) ++ mrg (A.drop (i + 1)) (B.drop j) = R by rw [← HN0, mrg_a_end HX1.out (by omega)]; simp)
        clear HN0 HX1
        go_wp2_with fail
        go_quiet (fail)
        go_wp2_with (at_builtin; refine wpList_append_own _ rfl (.tmp 39) (.tmp 44) 47 rfl w.heap.size 3 i0 (.int .i64 0) 1 8 Try.underlying47 hi0 hz0 hz1 hz2 rfl (by decide) _ _ _ rfl (HO.out.alloc _) ⟨wr.heap.size, 0, none⟩ 1 1 [.int .i64 x1] rfl rfl (one_new_at _ _ _ _ (by simp)) (one_i64 _) (by unfold maxLen; omega) (by omega) (by simp; omega) ?_; intro v1 w3 hown1 hgrow1 hnil1)
        have HO1 := hid (ownI_push hown1)
        have HB1 := hid (below_push ((below_drewN HB.out nq).alloc hsz _) ((show (wr.drewN nq).ownsRow _ _ _ _ _ _ from HO.out).alloc _) hgrow1 (by simp; omega))
        clear hown1 hgrow1 hnil1
        go_wp2_with fail
        go_roundw
        case rel => exact ⟨i + 1, j, _, by go_num, rfl, hi', hj, by simp; omega, HO1.out, HB1.out, HN.out⟩
        case measure => simp [intOf]; omega
    · have gi : decide ((i : Int) < (A.length : Int)) = false := by simp; omega
      have gi2 : decide (i < A.length) = false := by simp; omega
      have gi3 : (A.length : Int) ≤ (i : Int) := by omega
      by_cases hj' : j < B.length
      · obtain ⟨p2, o2, x2, rfl, d2, _, HX2, _, _⟩ := HRB.out.get HB.out hj'
        have gj : decide ((B.length : Int) ≤ (j : Int)) = false := by simp; omega
        have gj2 : decide (B.length ≤ j) = false := by simp; omega
        have HN := hid (show (out ++ [x2]) ++ mrg (A.drop i) (B.drop (j + 1)) = R by rw [← HN0, mrg_b_end (by omega) HX2.out]; simp)
        clear HN0 HX2
        go_wp2_with fail
        go_quiet (fail)
        obtain ⟨wq, hwq⟩ : ∃ x, x = wr.drewN nq := ⟨_, rfl⟩
        have HBq : Hid (Below w.heap.size w wq) := by rw [hwq]; exact below_drewN HB.out nq
        have HOq : Hid (wq.ownsRow w.heap.size 3 1 u5 out.length (out.map (Value.int .i64))) := by rw [hwq]; exact HO.out
        have g2 : wq.cell? ⟨p2, o2 + j, none⟩ = some (.int .i64 x2) := by rw [hwq]; exact d2
        have hsq : w.heap.size ≤ wq.heap.size := by rw [hwq]; exact hsz
        rw [← hwq]
        clear hwq d2
        go_wp2_with fail
        go_quiet (fail)
        go_wp2_with (at_builtin; refine wpList_append_own _ rfl (.tmp 63) (.tmp 68) 47 rfl w.heap.size 3 i0 (.int .i64 0) 1 8 Try.underlying47 hi0 hz0 hz1 hz2 rfl (by decide) _ _ _ rfl (HOq.out.alloc _) ⟨wq.heap.size, 0, none⟩ 1 1 [.int .i64 x2] rfl rfl (one_new_at _ _ _ _ (by simp)) (one_i64 _) (by unfold maxLen; omega) (by omega) (by simp; omega) ?_; intro v1 w3 hown1 hgrow1 hnil1)
        have HO1 := hid (ownI_push hown1)
        have HB1 := hid (below_push ((below_drewN HBq.out nq).alloc hsq _) ((show (wq.drewN nq).ownsRow _ _ _ _ _ _ from HOq.out).alloc _) hgrow1 (by simp; omega))
        clear hown1 hgrow1 hnil1
        go_wp2_with fail
        go_roundw
        case rel => exact ⟨i, j + 1, _, rfl, by go_num, hi, hj', by simp; omega, HO1.out, HB1.out, HN.out⟩
        case measure => simp [intOf]; omega
      · have HN := hid (show out = R by rw [← HN0, List.drop_of_length_le (by omega), List.drop_of_length_le (by omega)]; simp [mrg])
        clear HN0
        go_wp2_with fail
        go_ret
        rw [← HN.out]
        exact ⟨retRow_own HO.out, HB⟩
end Go.Proofs.Qxb6605195a
