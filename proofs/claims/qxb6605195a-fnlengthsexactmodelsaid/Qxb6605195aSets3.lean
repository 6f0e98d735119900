import Derived.Test.Qxb6605195aSets2
import Derived.Test.Qxb6605195aLens2
set_option maxRecDepth 100000
namespace Go.Proofs.Qxb6605195a
open Go.ChangeShapes Go.WideShapes Go.ChangeAt Go.RowKit Plain
set_option linter.unusedVariables false

theorem rowW_eq {x : Int} {Y : List Int} {p q : Nat} (hx : 0 ≤ x ∧ x ≤ p) (hy : Upto q Y) (hs : small (p + q)) : rowW x Y = Y.map fun y => x + y := by
  unfold rowW
  unfold small at hs
  apply List.map_congr_left
  intro y hyY
  have h2 := hy y hyY
  unfold wrap64
  omega
theorem inc_shift {Y : List Int} (x : Int) (h : Inc Y) : Inc (Y.map fun y => x + y) := by
  unfold Inc at *
  rw [List.pairwise_map]
  exact h.imp fun h => by omega
/-- the union of the first k rows -/
def SumRel (X Y : List Int) (k : Nat) (A : List Int) : Prop := Inc A ∧ ∀ z, z ∈ A ↔ ∃ x ∈ X.take k, ∃ y ∈ Y, x + y = z
theorem sumRel_next {X Y A : List Int} {k : Nat} {x : Int} (h : SumRel X Y k A) (ht : X.take (k + 1) = X.take k ++ [x]) (hY : Inc Y) : SumRel X Y (k + 1) (mrg A (Y.map fun y => x + y)) := by
  refine ⟨mrg_inc _ _ _ (Nat.le_refl _) h.1 (inc_shift x hY), fun z => ?_⟩
  rw [mrg_mem _ _ _ (Nat.le_refl _), h.2 z, ht]
  constructor
  · rintro (⟨a, h1, y, h2, e⟩ | h1)
    · exact ⟨a, by simp [h1], y, h2, e⟩
    · obtain ⟨y, h2, e⟩ := List.mem_map.1 h1
      exact ⟨x, by simp, y, h2, e⟩
  · rintro ⟨a, h1, y, h2, e⟩
    rcases List.mem_append.1 h1 with h3 | h3
    · exact .inl ⟨a, h3, y, h2, e⟩
    · simp only [List.mem_singleton] at h3
      subst h3
      exact .inr (List.mem_map.2 ⟨y, h2, e⟩)
theorem sumRel_end {X Y A : List Int} (h : SumRel X Y X.length A) : A = sumL X Y := by
  refine inc_unique h.1 (inc_sumL X Y) fun z => ?_
  rw [h.2 z, mem_sumL, List.take_of_length_le (Nat.le_refl _)]

set_option maxHeartbeats 2000000 in
theorem sumset_any (a1 a2 : Option Addr) (c1 c2 : Nat) (X Y : List Int) (p q : Nat) (w : World) (hx : X.length ≤ 256) (hy : Y.length ≤ 256) (HX : Hid (Upto p X)) (HY : Hid (Upto q Y)) (HI : Hid (Inc Y)) (HS : Hid (small (p + q))) (h1 : Hid (IntRow .i64 w a1 X)) (h2 : Hid (IntRow .i64 w a2 Y)) :
    Calls Try.prog 39 #[.slice a1 X.length c1, .slice a2 Y.length c2] w fun e w' => RetRow w.heap.size (sumL X Y) e w' ∧ Hid (Below w.heap.size w w') := by
  obtain ⟨i0, hi0, hz0, hz1, hz2⟩ := info_parts Try.info3
  go_enter Try.func39, Try.ntmps39
  go_wp2_with fail
  go_loopw [5, 13] (fun v i wr => ∃ (k : Nat) (A : List Int) (a : Option Addr) (c : Nat), k ≤ X.length ∧ i = .int .i64 k ∧ v = .slice a A.length c ∧ A.length ≤ k * 256 ∧ A.length ≤ c ∧ Hid (SumRel X Y k A) ∧ Hid (IntRow .i64 wr a A) ∧ Hid (a = none → A = [] ∧ c = 0) ∧ Hid (∀ x, a = some x → w.heap.size ≤ x.block) ∧ Hid (Below w.heap.size w wr)) (fun _ i _ => X.length - (intOf i).toNat)
  case atStart => exact ⟨0, [], none, 0, Nat.zero_le _, rfl, rfl, by simp, by simp, ⟨by simp [Inc], by simp⟩, fun h => absurd h (by simp), fun _ => ⟨rfl, rfl⟩, fun x h => (by cases h), Below.refl _ _⟩
  case round =>
    obtain ⟨k, A, a, c, hk, rfl, rfl, hAl, hAc, HR, IA, NA, KA, HB⟩ := hrel
    by_cases hlt : k < X.length
    · obtain ⟨b1, o1, x, rfl, d1, _, HXD, HXM, _⟩ := h1.out.get HB.out hlt
      have HT := hid (take_snoc HXD.out)
      have HXB := hid (HX.out x HXM.out)
      clear HXD HXM
      obtain ⟨w2, hw2⟩ : ∃ w2, w2 = wr := ⟨_, rfl⟩
      subst hw2
      go_wp2_with fail
      go_loopw [8, 19] (fun v i ws => ∃ (j : Nat) (ys : List Int), j ≤ Y.length ∧ i = .int .i64 j ∧ ys.length ≤ j ∧ Hid (ys = rowW x (Y.take j)) ∧ Hid (ws.ownsRow w2.heap.size 3 1 v ys.length (ys.map (Value.int .i64))) ∧ Hid (Below w2.heap.size w2 ws)) (fun _ i _ => Y.length - (intOf i).toNat)
      case atStart => exact ⟨0, [], Nat.zero_le _, rfl, by simp, by show _ = _; simp [rowW], World.ownsRow_nil _ _ _ _, Below.refl _ _⟩
      case round =>
        obtain ⟨j, ys, hj, rfl, hyl, HYS, HO1, HB1⟩ := hrel
        have D1 := hid (below_next HB.out HB1.out)
        by_cases hjt : j < Y.length
        · obtain ⟨b2, o2, y, rfl, d2, _, HXY, _, _⟩ := h2.out.get D1.out hjt
          have HT2 := hid (take_snoc HXY.out)
          have hwz := HB1.out.size
          clear HXY
          go_wp2_with (at_builtin; refine wpList_append_own_at _ rfl (.tmp 23) (.tmp 27) 47 rfl w2.heap.size 3 i0 (.int .i64 0) 1 8 Try.underlying47 hi0 hz0 hz1 hz2 rfl (by decide) _ _ _ rfl (HO1.out.alloc _) ⟨wr.heap.size, 0, none⟩ 1 1 [.int .i64 (wrap64 (x + y))] rfl rfl (one_new_at _ _ _ _ rfl) (one_i64 _) (by unfold maxLen; omega) (by omega) (by simp; omega) ?_; intro v1 w3 hown1 hgrow1 hnil1 hloc1)
          refine ⟨⟨j + 1, ys ++ [wrap64 (x + y)], hjt, by simp, by simp; omega, ?_, ?_, ?_⟩, by simp [intOf]; omega⟩
          · show _ = _
            rw [HT2.out, rowW_snoc, ← HYS.out]
          · exact ownI_push hown1
          · exact below_push (HB1.out.alloc hwz _) (HO1.out.alloc _) hgrow1 (by simp; omega)
        · have HE := hid (show ys = Y.map fun y => x + y by rw [HYS.out, List.take_of_length_le (by omega)]; exact rowW_eq HXB.out HY.out HS.out)
          obtain ⟨ar, cr, er, IR⟩ := intRow_own HO1.out
          subst er
          have IR' := hid IR
          have IA' := hid (IA.out.below HB1.out)
          clear IR
          go_wp2_with fail
          refine (merge_any a ar c cr A ys wr (by omega) (by omega) IA' IR').mono ?_
          rintro e w4 ⟨⟨a4, c4, rfl, l4, I4, N4, K4⟩, B4⟩
          have D4 := hid (below_next D1.out B4.out)
          have ML := mrg_len _ A ys (Nat.le_refl _)
          have HN := hid (sumRel_next HR.out HT.out HI.out)
          have K4' : Hid (∀ x, a4 = some x → w.heap.size ≤ x.block) := fun x hx => Nat.le_trans D1.out.size (K4.out x hx)
          rw [← HE.out] at HN
          go_wp2_with fail
          go_roundw
          case rel => exact ⟨k + 1, mrg A ys, a4, c4, hlt, by go_num, rfl, by omega, l4, HN, I4, N4, K4', D4⟩
          case measure => simp [intOf]; omega
    · have hke : k = X.length := by omega
      have HE := hid (show A = sumL X Y by have := HR.out; rw [hke] at this; exact sumRel_end this)
      go_wp2_with fail
      go_ret
      rw [← HE.out]
      exact ⟨⟨a, c, rfl, hAc, IA, NA, KA⟩, HB⟩

set_option maxHeartbeats 2000000 in
theorem sameInts_yes (a1 a2 : Option Addr) (c1 c2 : Nat) (L : List Int) (w : World) (hm : L.length ≤ 1000000000000) (h1 : Hid (IntRow .i64 w a1 L)) (h2 : Hid (IntRow .i64 w a2 L)) :
    Calls Try.prog 25 #[.slice a1 L.length c1, .slice a2 L.length c2] w fun e w' => e = .returned (.bool true) ∧ Hid (Below w.heap.size w w') := by
  go_enter Try.func25, Try.ntmps25
  go_wp2_with fail
  go_loopw [5] (fun i wr => ∃ k : Nat, k ≤ L.length ∧ i = .int .i64 k ∧ Hid (Below w.heap.size w wr)) (fun i _ => L.length - (intOf i).toNat)
  case atStart => exact ⟨0, Nat.zero_le _, rfl, Below.refl _ _⟩
  case round =>
    obtain ⟨k, hk, rfl, HB⟩ := hrel
    by_cases hlt : k < L.length
    · obtain ⟨b1, o1, z1, rfl, d1, _, _, _, E1⟩ := h1.out.get HB.out hlt
      obtain ⟨b2, o2, z2, rfl, d2, _, _, _, E2⟩ := h2.out.get HB.out hlt
      obtain rfl : z1 = z2 := E1.out.symm.trans E2.out
      have hk1 : (k : Int) < (L.length : Int) := by omega
      clear E1 E2 h1 h2
      go_wp2_with fail
      go_quiet (fail)
      go_wp2_with fail
      go_roundw
      case rel => exact ⟨k + 1, hlt, by go_num, below_drewN HB.out _⟩
      case measure => simp [intOf]; omega
    · go_wp2_with fail
      go_ret
      exact ⟨rfl, HB⟩
end Go.Proofs.Qxb6605195a
