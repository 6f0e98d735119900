import Derived.Test.Qxb6605195aSets1
namespace Go.Proofs.Qxb6605195a
open Go.ChangeShapes Go.WideShapes Go.ChangeAt Go.RowKit Plain
set_option linter.unusedVariables false
set_option maxRecDepth 100000

/-! ### sortEvents -/
def leI (a b : Int) : Bool := decide (a ≤ b)
theorem IntRow.take {k : IntKind} {w : World} {a : Option Addr} {xs : List Int} (h : IntRow k w a xs) (m : Nat) : IntRow k w a (xs.take m) := by
  intro h0
  obtain ⟨b, off, e, hc⟩ := h (by simp at h0; omega)
  refine ⟨b, off, e, fun i hi => ?_⟩
  have := hc i (by simp at hi; omega)
  have e1 : (xs.take m).getD i 0 = xs.getD i 0 := by
    rw [List.getD_eq_getElem?_getD, List.getD_eq_getElem?_getD, List.getElem?_take]; simp at hi; rw [if_pos (by omega)]
  rw [e1]; exact this
theorem IntRow.drop {k : IntKind} {w : World} {b off : Nat} {xs : List Int} (h : IntRow k w (some ⟨b, off, none⟩) xs) (m : Nat) : IntRow k w (some ⟨b, off + m, none⟩) (xs.drop m) := by
  intro h0
  simp at h0
  obtain ⟨b', off', e, hc⟩ := h (by omega)
  simp only [Option.some.injEq, Addr.mk.injEq] at e
  obtain ⟨rfl, rfl, _⟩ := e
  refine ⟨b, off + m, rfl, fun i hi => ?_⟩
  simp at hi
  have := hc (m + i) (by omega)
  have e1 : (xs.drop m).getD i 0 = xs.getD (m + i) 0 := by
    rw [List.getD_eq_getElem?_getD, List.getD_eq_getElem?_getD, List.getElem?_drop]
  rw [e1, Nat.add_assoc]; exact this

theorem own_base {w : World} {B B' : Nat} {e : TypeId} {size n : Nat} {v : Value} {xs : List Value} (h : w.ownsRow B' e size v n xs) (hB : B ≤ B') : w.ownsRow B e size v n xs := by
  obtain ⟨hl, h0 | ⟨g, cap, cur, rfl, h1, hh⟩⟩ := h
  · exact ⟨hl, .inl h0⟩
  · exact ⟨hl, .inr ⟨g, cap, cur, rfl, Nat.le_trans hB h1, hh⟩⟩
theorem mergeI_a {A B : List Int} {i j : Nat} {a b : Int} (h1 : A.drop i = a :: A.drop (i + 1)) (h2 : B.drop j = b :: B.drop (j + 1)) (h : a ≤ b) :
    List.merge (A.drop i) (B.drop j) leI = a :: List.merge (A.drop (i + 1)) (B.drop j) leI := by
  rw [h1, h2, List.cons_merge_cons, if_pos (by simp [leI, h])]
theorem mergeI_b {A B : List Int} {i j : Nat} {a b : Int} (h1 : A.drop i = a :: A.drop (i + 1)) (h2 : B.drop j = b :: B.drop (j + 1)) (h : ¬ a ≤ b) :
    List.merge (A.drop i) (B.drop j) leI = b :: List.merge (A.drop i) (B.drop (j + 1)) leI := by
  rw [h1, h2, List.cons_merge_cons, if_neg (by simp [leI]; omega)]
theorem mergeI_a_end {A B : List Int} {i j : Nat} {a : Int} (h1 : A.drop i = a :: A.drop (i + 1)) (h2 : B.length ≤ j) :
    List.merge (A.drop i) (B.drop j) leI = a :: List.merge (A.drop (i + 1)) (B.drop j) leI := by
  rw [List.drop_of_length_le h2, List.merge_right, List.merge_right, h1]
theorem mergeI_b_end {A B : List Int} {i j : Nat} {b : Int} (h1 : A.length ≤ i) (h2 : B.drop j = b :: B.drop (j + 1)) :
    List.merge (A.drop i) (B.drop j) leI = b :: List.merge (A.drop i) (B.drop (j + 1)) leI := by
  rw [List.drop_of_length_le h1, List.nil_merge, List.nil_merge, h2]

/-- the merge loop's relation -/
def RelMI (w2 : World) (A B R : List Int) (v ii jj : Value) (wr : World) : Prop :=
  ∃ (i j : Nat) (out : List Int), ii = .int .i64 i ∧ jj = .int .i64 j ∧ i ≤ A.length ∧ j ≤ B.length ∧ out.length = i + j ∧ wr.ownsRow w2.heap.size 3 1 v out.length (out.map (Value.int .i64)) ∧ Below w2.heap.size w2 wr ∧ out ++ List.merge (A.drop i) (B.drop j) leI = R

def RetSortedI (B : Nat) (xs : List Int) (e : Ending) (w' : World) : Prop := ∃ ys, RetRow B ys e w' ∧ ys.Perm xs ∧ ys.Pairwise (fun a b => a ≤ b)

set_option maxHeartbeats 2000000 in
theorem sortI_short (a : Option Addr) (cap : Nat) (xs : List Int) (w : World) (hm : xs.length < 2) (hr : Hid (IntRow .i64 w a xs)) :
    Calls Try.prog 48 #[.slice a xs.length cap] w fun e w' => RetRow w.heap.size xs e w' ∧ Below w.heap.size w w' := by
  obtain ⟨i0, hi0, hz0, hz1, hz2⟩ := info_parts Try.info3
  have hm2 : decide ((xs.length : Int) < 2) = true := by simp; omega
  go_enter Try.func48, Try.ntmps48
  go_wp2_with fail
  go_loopw [3, 17] (fun v i wr => ∃ k : Nat, k ≤ xs.length ∧ i = .int .i64 k ∧ Hid (wr.ownsRow w.heap.size 3 1 v (xs.take k).length ((xs.take k).map (Value.int .i64))) ∧ Hid (Below w.heap.size w wr)) (fun _ i _ => xs.length - (intOf i).toNat)
  case atStart => exact ⟨0, Nat.zero_le _, rfl, World.ownsRow_nil _ _ _ _, Below.refl _ _⟩
  case round =>
    obtain ⟨k, hk, rfl, HO, HB⟩ := hrel
    by_cases hlt : k < xs.length
    · obtain ⟨b, off, lo, rfl, c1, hbl, HX, HM, _⟩ := hr.out.get HB.out hlt
      have hsz := HB.out.size
      have hln : (xs.take k).length ≤ 99999999 := by simp; omega
      go_wp2_with (at_builtin; refine wpList_append_own _ rfl (.tmp 21) (.tmp 23) 47 rfl w.heap.size 3 i0 (.int .i64 0) 1 8 Try.underlying47 hi0 hz0 hz1 hz2 rfl (by decide) _ _ _ rfl (HO.out.alloc _) ⟨wr.heap.size, 0, none⟩ 1 1 [.int .i64 lo] rfl rfl (one_new_at _ _ _ _ (by simp)) (one_i64 _) (by unfold maxLen; omega) (by omega) (by simp; omega) ?_; intro v1 w1 hown1 hgrow1 hnil1)
      have HO1 : Hid (w1.ownsRow w.heap.size 3 1 v1 (xs.take (k + 1)).length ((xs.take (k + 1)).map (Value.int .i64))) := by rw [take_snoc HX.out]; exact ownI_push hown1
      have HB1 : Hid (Below w.heap.size w w1) := below_push (HB.out.alloc hsz _) (HO.out.alloc _) hgrow1 (by simp; omega)
      clear hown1 hgrow1 hnil1
      go_wp2_with fail
      go_roundw
      case rel => exact ⟨k + 1, hlt, by go_num, HO1, HB1⟩
      case measure => simp [intOf]; omega
    · go_wp2_with fail
      go_ret
      rw [List.take_of_length_le (by omega)] at HO
      exact ⟨retRow_own HO.out, HB.out⟩

set_option maxHeartbeats 4000000 in
theorem sortInts_any (n : Nat) : ∀ (a : Option Addr) (cap : Nat) (xs : List Int) (w : World), xs.length ≤ n → xs.length ≤ 100000000 → xs.length ≤ cap → Hid (IntRow .i64 w a xs) →
    Calls Try.prog 48 #[.slice a xs.length cap] w fun e w' => RetSortedI w.heap.size xs e w' ∧ Below w.heap.size w w' := by
  induction n with
  | zero =>
    intro a cap xs w h0 hm hc hr
    refine (sortI_short a cap xs w (by omega) hr).mono ?_
    rintro e w' ⟨h1, h2⟩
    have : xs = [] := List.length_eq_zero_iff.mp (by omega)
    exact ⟨⟨xs, h1, List.Perm.refl _, by rw [this]; exact List.Pairwise.nil⟩, h2⟩
  | succ n ih =>
    intro a cap xs w h0 hm hc hr
    by_cases h2 : xs.length < 2
    · refine (sortI_short a cap xs w h2 hr).mono ?_
      rintro e w' ⟨h1, h3⟩
      refine ⟨⟨xs, h1, List.Perm.refl _, ?_⟩, h3⟩
      match xs, h2 with
      | [], _ => exact List.Pairwise.nil
      | [x], _ => exact List.pairwise_singleton _ _
    · obtain ⟨i0, hi0, hz0, hz1, hz2⟩ := info_parts Try.info3
      obtain ⟨b, off, rfl, _⟩ := hr.out (by omega)
      have hm2 : decide ((xs.length : Int) < 2) = false := by simp; omega
      have hmid : xs.length / 2 < xs.length := by omega
      have c1 := ih (some ⟨b, off, none⟩) cap (xs.take (xs.length / 2)) w (by simp; omega) (by simp; omega) (by simp; omega) (hr.out.take _)
      have el : (xs.take (xs.length / 2)).length = xs.length / 2 := by simp; omega
      rw [el] at c1
      have C1 := hid c1
      clear c1 el
      go_enter Try.func48, Try.ntmps48
      go_wp2_with fail
      refine C1.out.mono ?_
      rintro e w1 ⟨⟨A, ⟨a1, ca1, rfl, hc1, R1, _, _⟩, PA, SA⟩, B1⟩
      have lA : A.length ≤ 100000000 := by rw [PA.length_eq]; simp; omega
      have HR1 := hid R1.out
      have HPA := hid PA
      have HSA := hid SA
      have HB1 := hid B1
      clear R1 PA SA B1
      go_wp2_with fail
      have c2 := ih (some ⟨b, off + xs.length / 2, none⟩) (cap - xs.length / 2) (xs.drop (xs.length / 2)) w1 (by simp; omega) (by simp; omega) (by simp; omega) ((hr.out.below HB1.out).drop _)
      have el2 : (xs.drop (xs.length / 2)).length = xs.length - xs.length / 2 := by simp
      rw [el2] at c2
      refine c2.mono ?_
      clear c2 el2
      rintro e w2 ⟨⟨B, ⟨a2, ca2, rfl, hc2, R2, _, _⟩, PB, SB⟩, B2⟩
      have lB : B.length = xs.length - xs.length / 2 := by rw [PB.length_eq]; simp
      have lA2 : A.length = xs.length / 2 := by rw [HPA.out.length_eq]; simp; omega
      have LA : A.length + B.length ≤ 100000000 := by omega
      have HRB := hid R2.out
      have HRA := hid (HR1.out.below B2)
      have HPB := hid PB
      have HSB := hid SB
      have HB2 := hid B2
      obtain ⟨R, HRR⟩ : ∃ R, Hid (List.merge A B leI = R) := ⟨_, rfl⟩
      clear R2 PB SB B2 lB lA2 C1
      go_wp2_with fail
      go_loopw [9, 10, 11] (RelMI w2 A B R) (fun _ i j _ => A.length + B.length - ((intOf i).toNat + (intOf j).toNat))
      case atStart => exact ⟨0, 0, [], rfl, rfl, Nat.zero_le _, Nat.zero_le _, rfl, World.ownsRow_nil _ _ _ _, Below.refl _ _, HRR.out⟩
      case round =>
        obtain ⟨i, j, out, rfl, rfl, hi, hj, ho, HO0, HB0, HN0⟩ := hrel
        have HO := hid HO0
        have HB := hid HB0
        have hsz := HB0.size
        clear HO0 HB0 ih
        by_cases hi' : i < A.length
        · obtain ⟨p1, o1, x1, rfl, d1, _, HX1, _, _⟩ := HRA.out.get HB.out hi'
          have gi : (i : Int) < (A.length : Int) := by omega
          by_cases hj' : j < B.length
          · obtain ⟨p2, o2, x2, rfl, d3, _, HX2, _, _⟩ := HRB.out.get HB.out hj'
            have gj : decide ((B.length : Int) ≤ (j : Int)) = false := by simp; omega
            have gj2 : decide (B.length ≤ j) = false := by simp; omega
            by_cases hle : x1 ≤ x2
            · have HN := hid (show (out ++ [x1]) ++ List.merge (A.drop (i + 1)) (B.drop j) leI = R by rw [← HN0, mergeI_a HX1.out HX2.out hle]; simp)
              clear HN0 HX1 HX2
              go_wp2_with fail
              go_quiet (fail)
              go_wp2_with (at_builtin; refine wpList_append_own _ rfl (.tmp 69) (.tmp 74) 47 rfl w2.heap.size 3 i0 (.int .i64 0) 1 8 Try.underlying47 hi0 hz0 hz1 hz2 rfl (by decide) _ _ _ rfl (HO.out.alloc _) ⟨wr.heap.size, 0, none⟩ 1 1 [.int .i64 x1] rfl rfl (one_new_at _ _ _ _ (by simp)) (one_i64 _) (by unfold maxLen; omega) (by omega) (by simp; omega) ?_; intro v1 w3 hown1 hgrow1 hnil1)
              have HO1 := hid (ownI_push hown1)
              have HB1 := hid (below_push ((below_drewN HB.out nq).alloc hsz _) ((show (wr.drewN nq).ownsRow _ _ _ _ _ _ from HO.out).alloc _) hgrow1 (by simp; omega))
              clear hown1 hgrow1 hnil1
              go_wp2_with fail
              go_roundw
              case rel => exact ⟨i + 1, j, _, by go_num, rfl, hi', hj, by simp; omega, HO1.out, HB1.out, HN.out⟩
              case measure => simp [intOf]; omega
            · have hd : decide (x1 ≤ x2) = false := by simpa using hle
              have HN := hid (show (out ++ [x2]) ++ List.merge (A.drop i) (B.drop (j + 1)) leI = R by rw [← HN0, mergeI_b HX1.out HX2.out hle]; simp)
              clear HN0 HX1 HX2
              go_wp2_with fail
              go_quiet (fail)
              go_wp2_with (at_builtin; refine wpList_append_own _ rfl (.tmp 78) (.tmp 83) 47 rfl w2.heap.size 3 i0 (.int .i64 0) 1 8 Try.underlying47 hi0 hz0 hz1 hz2 rfl (by decide) _ _ _ rfl (HO.out.alloc _) ⟨wr.heap.size, 0, none⟩ 1 1 [.int .i64 x2] rfl rfl (one_new_at _ _ _ _ (by simp)) (one_i64 _) (by unfold maxLen; omega) (by omega) (by simp; omega) ?_; intro v1 w3 hown1 hgrow1 hnil1)
              have HO1 := hid (ownI_push hown1)
              have HB1 := hid (below_push ((below_drewN HB.out nq).alloc hsz _) ((show (wr.drewN nq).ownsRow _ _ _ _ _ _ from HO.out).alloc _) hgrow1 (by simp; omega))
              clear hown1 hgrow1 hnil1
              go_wp2_with fail
              go_roundw
              case rel => exact ⟨i, j + 1, _, rfl, by go_num, hi, hj', by simp; omega, HO1.out, HB1.out, HN.out⟩
              case measure => simp [intOf]; omega
          · have gj : (B.length : Int) ≤ (j : Int) := by omega
            have HN := hid (show (out ++ [x1]) ++ List.merge (A.drop (i + 1)) (B.drop j) leI = R by rw [← HN0, mergeI_a_end HX1.out (by omega)]; simp)
            clear HN0 HX1
            go_wp2_with fail
            go_quiet (fail)
            go_wp2_with (at_builtin; refine wpList_append_own _ rfl (.tmp 69) (.tmp 74) 47 rfl w2.heap.size 3 i0 (.int .i64 0) 1 8 Try.underlying47 hi0 hz0 hz1 hz2 rfl (by decide) _ _ _ rfl (HO.out.alloc _) ⟨wr.heap.size, 0, none⟩ 1 1 [.int .i64 x1] rfl rfl (one_new_at _ _ _ _ (by simp)) (one_i64 _) (by unfold maxLen; omega) (by omega) (by simp; omega) ?_; intro v1 w3 hown1 hgrow1 hnil1)
            have HO1 := hid (ownI_push hown1)
            have HB1 := hid (below_push ((below_drewN HB.out nq).alloc hsz _) ((show (wr.drewN nq).ownsRow _ _ _ _ _ _ from HO.out).alloc _) hgrow1 (by simp; omega))
            clear hown1 hgrow1 hnil1
            go_wp2_with fail
            go_roundw
            case rel => exact ⟨i + 1, j, _, by go_num, rfl, hi', hj, by simp; omega, HO1.out, HB1.out, HN.out⟩
            case measure => simp [intOf]; omega
        · have gi : decide ((i : Int) < (A.length : Int)) = false := by simp; omega
          have gi2 : decide (i < A.length) = false := by simp; omega
          by_cases hj' : j < B.length
          · obtain ⟨p2, o2, x2, rfl, d3, _, HX2, _, _⟩ := HRB.out.get HB.out hj'
            have gj : decide ((B.length : Int) ≤ (j : Int)) = false := by simp; omega
            have gj2 : decide (B.length ≤ j) = false := by simp; omega
            have HN := hid (show (out ++ [x2]) ++ List.merge (A.drop i) (B.drop (j + 1)) leI = R by rw [← HN0, mergeI_b_end (by omega) HX2.out]; simp)
            clear HN0 HX2
            go_wp2_with fail
            go_quiet (fail)
            go_wp2_with (at_builtin; refine wpList_append_own _ rfl (.tmp 78) (.tmp 83) 47 rfl w2.heap.size 3 i0 (.int .i64 0) 1 8 Try.underlying47 hi0 hz0 hz1 hz2 rfl (by decide) _ _ _ rfl (HO.out.alloc _) ⟨wr.heap.size, 0, none⟩ 1 1 [.int .i64 x2] rfl rfl (one_new_at _ _ _ _ (by simp)) (one_i64 _) (by unfold maxLen; omega) (by omega) (by simp; omega) ?_; intro v1 w3 hown1 hgrow1 hnil1)
            have HO1 := hid (ownI_push hown1)
            have HB1 := hid (below_push ((below_drewN HB.out nq).alloc hsz _) ((show (wr.drewN nq).ownsRow _ _ _ _ _ _ from HO.out).alloc _) hgrow1 (by simp; omega))
            clear hown1 hgrow1 hnil1
            go_wp2_with fail
            go_roundw
            case rel => exact ⟨i, j + 1, _, rfl, by go_num, hi, hj', by simp; omega, HO1.out, HB1.out, HN.out⟩
            case measure => simp [intOf]; omega
          · have HN : out = R := by rw [← HN0, List.drop_of_length_le (by omega), List.drop_of_length_le (by omega)]; simp
            subst HN
            clear HN0
            go_wp2_with fail
            go_ret
            refine ⟨⟨out, retRow_own (own_base HO.out (Nat.le_trans HB1.out.size HB2.out.size)), ?_, ?_⟩, ?_⟩
            · rw [← HRR.out]
              exact (List.merge_perm_append _).trans ((HPA.out.append HPB.out).trans (by rw [List.take_append_drop]))
            · have := List.pairwise_merge (le := leI) (fun a b c h1 h2 => by simp [leI] at *; omega) (fun a b => by simp [leI]; omega) A B (HSA.out.imp (fun h => by simpa [leI] using h)) (HSB.out.imp (fun h => by simpa [leI] using h))
              rw [← HRR.out]
              exact this.imp (fun h => by simpa [leI] using h)
            · exact HB1.out.trans ((HB2.out.trans (HB.out.mono HB2.out.size)).mono HB1.out.size)

/-! ### sortUnique -/
open Go.Lib in
theorem keeps_zero (d : Array Int) : keeps d 0 = true := by simp [keeps]
theorem toArr_get {Z : List Int} {i : Nat} (hi : i < Z.length) : Z.toArray[i]! = Z.getD i 0 := by simp [hi]
open Go.Lib in
theorem sorted_uniq {xs Z : List Int} (hp : Z.Perm xs) (hs : Z.Pairwise (fun a b => a ≤ b)) : compactUpTo Z.toArray Z.length = uniq xs := by
  have hget : ∀ i, i < Z.length → Z.toArray[i]! = Z.getD i 0 := fun i hi => toArr_get hi
  obtain ⟨h1, h2, h3⟩ := compact_inv Z.toArray (by
    intro i j hij hj
    simp only [List.size_toArray] at hj
    rw [hget i (by omega), hget j hj]
    by_cases e : i = j
    · subst e; omega
    · have := List.pairwise_iff_getElem.1 hs i j (by omega) hj (by omega)
      simpa [List.getD, List.getElem?_eq_getElem (show i < Z.length by omega), List.getElem?_eq_getElem hj] using this) Z.length (by simp)
  refine inc_unique h1 (uniq_spec xs).1 fun x => ?_
  rw [h2 x, (uniq_spec xs).2.1 x, ← hp.mem_iff]
  constructor
  · rintro ⟨j, hj, e⟩
    rw [hget j hj] at e
    rw [← e]
    simp [List.getD, List.getElem?_eq_getElem hj]
  · intro hx
    obtain ⟨j, hj, e⟩ := List.mem_iff_getElem.1 hx
    exact ⟨j, hj, by rw [hget j hj]; simp [List.getD, List.getElem?_eq_getElem hj, e]⟩

open Go.Lib in
set_option maxHeartbeats 2000000 in
theorem sortUnique_any (a : Option Addr) (cap : Nat) (xs : List Int) (w : World) (hm : xs.length ≤ 100000000) (hc : xs.length ≤ cap) (hr : Hid (IntRow .i64 w a xs)) :
    Calls Try.prog 40 #[.slice a xs.length cap] w fun e w' => RetRow w.heap.size (uniq xs) e w' ∧ Hid (Below w.heap.size w w') := by
  obtain ⟨i0, hi0, hz0, hz1, hz2⟩ := info_parts Try.info3
  go_enter Try.func40, Try.ntmps40
  go_wp2_with fail
  refine (sortInts_any xs.length a cap xs w (Nat.le_refl _) hm hc hr).mono ?_
  rintro e w1 ⟨⟨Z, ⟨a1, c1, rfl, _, I1, _, _⟩, PZ, SZ⟩, B1⟩
  have HB1 := hid B1
  have hZl : Z.length ≤ 100000000 := by rw [PZ.length_eq]; exact hm
  have HU := hid (sorted_uniq PZ SZ)
  clear B1 PZ SZ
  go_wp2_with fail
  go_loopw [4, 5] (fun v i wr => ∃ (k : Nat) (zs : List Int), k ≤ Z.length ∧ i = .int .i64 k ∧ zs.length ≤ k ∧ Hid (zs = compactUpTo Z.toArray k) ∧ Hid (wr.ownsRow w1.heap.size 3 1 v zs.length (zs.map (Value.int .i64))) ∧ Hid (Below w1.heap.size w1 wr)) (fun _ i _ => Z.length - (intOf i).toNat)
  case atStart => exact ⟨0, [], Nat.zero_le _, rfl, by simp, by show _ = _; simp [compactUpTo], World.ownsRow_nil _ _ _ _, Below.refl _ _⟩
  case round =>
    obtain ⟨k, zs, hk, rfl, hzl, HZ, HO, HBr⟩ := hrel
    have hsz := HBr.out.size
    by_cases hlt : k < Z.length
    · obtain ⟨p1, o1, x1, rfl, d1, _, _, _, HG⟩ := I1.out.get HBr.out hlt
      have HX := hid ((toArr_get hlt).trans HG.out)
      have HS := hid (compactUpTo_succ Z.toArray k)
      by_cases hk0 : k = 0
      · have hb0 : ((k : Int) == 0) = true := by simp [hk0]
        have HN : Hid (zs ++ [x1] = compactUpTo Z.toArray (k + 1)) := by
          show _ = _
          rw [HS.out, hk0, keeps_zero, if_pos rfl, ← hk0, HX.out, ← HZ.out]
        clear HG HX HS hk0
        go_wp2_with fail
        go_quiet (fail)
        go_wp2_with (at_builtin; refine wpList_append_own _ rfl (.tmp 28) (.tmp 33) 47 rfl w1.heap.size 3 i0 (.int .i64 0) 1 8 Try.underlying47 hi0 hz0 hz1 hz2 rfl (by decide) _ _ _ rfl (HO.out.alloc _) ⟨wr.heap.size, 0, none⟩ 1 1 [.int .i64 x1] rfl rfl (one_new_at _ _ _ _ (by simp)) (one_i64 _) (by unfold maxLen; omega) (by omega) (by simp; omega) ?_; intro v1 w3 hown1 hgrow1 hnil1)
        have HO1 := hid (ownI_push hown1)
        have HBa := hid (below_push ((below_drewN HBr.out nq).alloc hsz _) ((show (wr.drewN nq).ownsRow _ _ _ _ _ _ from HO.out).alloc _) hgrow1 (by simp; omega))
        clear hown1 hgrow1 hnil1
        go_wp2_with fail
        go_roundw
        case rel => exact ⟨k + 1, _, hlt, by go_num, by simp; omega, HN, HO1, HBa⟩
        case measure => simp [intOf]; omega
      · obtain ⟨p2, o2, y, ep, d2, _, _, _, HG2⟩ := I1.out.get HBr.out (i := k - 1) (by omega)
        cases ep
        have HX2 := hid ((toArr_get (show k - 1 < Z.length by omega)).trans HG2.out)
        have hb0 : ((k : Int) == 0) = false := by simpa using hk0
        have hki : (k : Int) - 1 = ((k - 1 : Nat) : Int) := by omega
        have hk1 : 0 < k := by omega
        by_cases hxy : x1 = y
        · have hn0 : (x1 != y) = false := by simp [hxy]
          have hn1 : (x1 == y) = true := by simp [hxy]
          have HN : Hid (zs = compactUpTo Z.toArray (k + 1)) := by
            show _ = _
            rw [HS.out, if_neg (by simp only [keeps, decide_eq_true_eq, not_or, Decidable.not_not]; exact ⟨hk0, by rw [HX.out, HX2.out]; exact hxy⟩), List.append_nil]
            exact HZ.out
          clear HG HX HS hk0 HG2 HX2 hxy
          go_wp2_with fail
          go_quiet (fail)
          go_wp2_with fail
          go_roundw
          case rel => exact ⟨k + 1, zs, hlt, by go_num, by omega, HN, HO, below_drewN HBr.out _⟩
          case measure => simp [intOf]; omega
        · have hn0 : (x1 != y) = true := by simp [hxy]
          have hn1 : (x1 == y) = false := by simp [hxy]
          have HN : Hid (zs ++ [x1] = compactUpTo Z.toArray (k + 1)) := by
            show _ = _
            rw [HS.out, if_pos (by simp only [keeps, decide_eq_true_eq]; exact .inr (by rw [HX.out, HX2.out]; exact hxy)), HX.out, ← HZ.out]
          clear HG HX HS hk0 HG2 HX2 hxy
          go_wp2_with fail
          go_quiet (fail)
          go_wp2_with (at_builtin; refine wpList_append_own _ rfl (.tmp 28) (.tmp 33) 47 rfl w1.heap.size 3 i0 (.int .i64 0) 1 8 Try.underlying47 hi0 hz0 hz1 hz2 rfl (by decide) _ _ _ rfl (HO.out.alloc _) ⟨wr.heap.size, 0, none⟩ 1 1 [.int .i64 x1] rfl rfl (one_new_at _ _ _ _ (by simp)) (one_i64 _) (by unfold maxLen; omega) (by omega) (by simp; omega) ?_; intro v1 w3 hown1 hgrow1 hnil1)
          have HO1 := hid (ownI_push hown1)
          have HBa := hid (below_push ((below_drewN HBr.out nq).alloc hsz _) ((show (wr.drewN nq).ownsRow _ _ _ _ _ _ from HO.out).alloc _) hgrow1 (by simp; omega))
          clear hown1 hgrow1 hnil1
          go_wp2_with fail
          go_roundw
          case rel => exact ⟨k + 1, _, hlt, by go_num, by simp; omega, HN, HO1, HBa⟩
          case measure => simp [intOf]; omega
    · have hke : k = Z.length := by omega
      have HE := hid (show zs = uniq xs by rw [HZ.out, hke]; exact HU.out)
      go_wp2_with fail
      go_ret
      rw [← HE.out]
      exact ⟨retRow_own (own_base HO.out HB1.out.size), below_next HB1.out HBr.out⟩
end Go.Proofs.Qxb6605195a
