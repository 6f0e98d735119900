import Derived.Test.Qxb6605294aFresh
import Derived.Test.Qxb6605294aZz
import Derived.BigRegion
set_option maxRecDepth 100000
namespace Go.Proofs.Qxb6605294a
open Go.ChangeShapes Go.WideShapes Go.ChangeAt Go.RowKit
set_option linter.unusedVariables false

theorem tot_flatten {α : Type} (xss : List (List α)) : xss.flatten.length = (xss.map List.length).sum := by simp [List.length_flatten]
theorem flat_at {α : Type} (d : α) : ∀ (xss : List (List α)) (k j : Nat), k < xss.length → j < (xss.getD k []).length → xss.flatten.getD ((xss.take k).flatten.length + j) d = (xss.getD k []).getD j d
  | [], k, j, h, _ => absurd h (by simp)
  | xs :: xss, 0, j, _, hj => by
    simp only [List.take_zero, List.flatten_nil, List.length_nil, Nat.zero_add, List.flatten_cons, List.getD_cons_zero] at hj ⊢
    rw [List.getD_eq_getElem?_getD, List.getD_eq_getElem?_getD, List.getElem?_append_left hj]
  | xs :: xss, k + 1, j, h, hj => by
    simp only [List.length_cons, List.getD_cons_succ] at h hj
    have ih := flat_at d xss k j (by omega) hj
    simp only [List.take_succ_cons, List.flatten_cons, List.length_append, List.getD_cons_succ]
    rw [List.getD_eq_getElem?_getD, Nat.add_assoc, List.getElem?_append_right (by omega), Nat.add_sub_cancel_left, ← List.getD_eq_getElem?_getD]
    exact ih
theorem take_flat {α : Type} {xss : List (List α)} {k : Nat} {xs : List α} (h : xss.drop k = xs :: xss.drop (k + 1)) : (xss.take (k + 1)).flatten = (xss.take k).flatten ++ xs := by
  have hk : k < xss.length := by
    rcases Nat.lt_or_ge k xss.length with h' | h'
    · exact h'
    · rw [List.drop_of_length_le h'] at h; cases h
  rw [List.drop_eq_getElem_cons hk] at h
  simp only [List.cons.injEq] at h
  rw [List.take_succ_eq_append_getElem hk, List.flatten_append, h.1]
  simp
theorem take_flat_le {α : Type} (xss : List (List α)) (k : Nat) : (xss.take k).flatten.length ≤ xss.flatten.length := by
  conv => rhs; rw [← List.take_append_drop k xss]
  rw [List.flatten_append, List.length_append]; omega
/-- a list at some other block than N -/
def InnerN (w : World) (N : Nat) (xs : List Int) (v : Value) : Prop := ∃ a c, v = .slice a xs.length c ∧ xs.length ≤ c ∧ IRow w a xs ∧ (a = none → xs = [] ∧ c = 0) ∧ ∀ x, a = some x → x.block ≠ N ∧ x.block < w.heap.size
theorem InnerN.set {w : World} {N i : Nat} {xs : List Int} {v u : Value} (h : InnerN w N xs v) : InnerN (w.setCell ⟨N, i, none⟩ u) N xs v := by
  obtain ⟨a, c, e, l, r, n, k⟩ := h
  refine ⟨a, c, e, l, r.keep fun x p hx hp => ?_, n, fun x hx => ⟨(k x hx).1, by simpa using (k x hx).2⟩⟩
  have := (k x hx).1
  exact World.cell?_of_block (Go.Deep.blk_setCell_other _ _ _ _ (by show p.block ≠ N; omega))
def FilledN (w : World) (N : Nat) (xss : List (List Int)) (n : Nat) (f : Nat → Value) : Prop := ∀ i, i < n → InnerN w N (xss.getD i []) (f i)
theorem lrow_filledN {w : World} {B : Nat} {e : TypeId} {xss : List (List Int)} {f : Nat → Value} (h : w.rowIs B e xss.length f) (hf : FilledN w B xss xss.length f) : LRow w (some ⟨B, 0, none⟩) xss := by
  refine fun _ => ⟨B, 0, f, rfl, h.lt, fun i hi => ?_⟩
  rw [Nat.zero_add]
  refine ⟨h.cell hi, ?_⟩
  obtain ⟨a, c, e, l, r, n, k⟩ := hf i hi
  exact ⟨a, c, e, l, r, n⟩
theorem filledN_step {w : World} {N n : Nat} {xss : List (List Int)} {f : Nat → Value} {v : Value} (h : FilledN w N xss n f) (hv : InnerN w N (xss.getD n []) v) : FilledN (w.setCell ⟨N, n, none⟩ v) N xss (n + 1) (fun j => if j = n then v else f j) := by
  intro i hi
  refine InnerN.set ?_
  by_cases e : i = n
  · subst e; simp only [if_true]; exact hv
  · simp only [if_neg e]; exact h i (by omega)
theorem FilledN.drew {w : World} {N n : Nat} {xss : List (List Int)} {f : Nat → Value} (h : FilledN w N xss n f) (q : Nat) : FilledN (w.drewN q) N xss n f := h
/-- what all lists cut from one row are -/
theorem cut_inner {w wr : World} {ab k : Nat} {xss : List (List Int)} {N : Nat} {xs : List Int} (hF : Row (Value.int .i64) 0 w (some ⟨ab, 0, none⟩) xss.flatten) (hb : Below w.heap.size w wr) (hl : ab < w.heap.size) (hN : ab ≠ N) (hk : k < xss.length) (hx : xss.getD k [] = xs) :
    InnerN wr N xs (.slice (some ⟨ab, (xss.take k).flatten.length, none⟩) xs.length xs.length) := by
  refine ⟨_, _, rfl, Nat.le_refl _, fun h0 => ⟨ab, _, rfl, fun j hj => ?_⟩, fun h => (by cases h), fun x h => (by cases h; exact ⟨hN, Nat.lt_of_lt_of_le hl hb.size⟩)⟩
  subst hx
  have h1 := flat_at 0 xss k j hk hj
  have hlen : (xss.take k).flatten.length + j < xss.flatten.length := by
    have e : (xss.take (k + 1)).flatten.length = (xss.take k).flatten.length + (xss.getD k []).length := by
      rw [take_flat (xs := xss.getD k []) (by rw [List.drop_eq_getElem_cons hk, List.getD_eq_getElem?_getD, List.getElem?_eq_getElem hk]; rfl), List.length_append]
    have := take_flat_le xss (k + 1)
    omega
  obtain ⟨b, off, e, hc⟩ := hF (by omega)
  cases e
  have h2 := hc _ hlen
  rw [Nat.zero_add, h1] at h2
  rw [hb.cell (p := ⟨ab, (xss.take k).flatten.length + j, none⟩) hl]; exact h2

set_option maxHeartbeats 4000000 in
theorem cloneLists_any (a : Option Addr) (cap : Nat) (xss : List (List Int)) (w : World) (hm : xss.length ≤ 1048576) (hT : xss.flatten.length ≤ 1048576) (hr : Hid (LRow w a xss)) :
    Calls Try.prog 68 #[.slice a xss.length cap] w fun e w' => RetL w.heap.size xss e w' ∧ Hid (Below w.heap.size w w') := by
  obtain ⟨i0, hi0, hz0, hz1, hz2⟩ := info_parts Try.info22
  go_enter Try.func68, Try.ntmps68
  go_wp2_with fail
  go_loopw [3, 11] (fun v i wr => ∃ (k : Nat) (zs : List Int), k ≤ xss.length ∧ i = .int .i64 k ∧ zs.length ≤ 1048576 ∧ Hid (zs = (xss.take k).flatten) ∧ Hid (wr.ownsRow w.heap.size 3 1 v zs.length (zs.map (Value.int .i64))) ∧ Hid (Below w.heap.size w wr)) (fun _ i _ => xss.length - (intOf i).toNat)
  case atStart => exact ⟨0, [], Nat.zero_le _, rfl, by simp, by show _ = _; simp, World.ownsRow_nil _ _ _ _, Below.refl _ _⟩
  case round =>
    obtain ⟨k, zs, hk, rfl, hzl, HZ, HO, HB⟩ := hrel
    have hsz := HB.out.size
    by_cases hlt : k < xss.length
    · obtain ⟨b, off, ai, ci, xs, rfl, c1, hbl, RI, NI, HX, HD⟩ := hr.out.get HB.out hlt
      have HN := hid (show zs ++ xs = (xss.take (k + 1)).flatten by rw [take_flat HD.out, HZ.out])
      have hnl : (zs ++ xs).length ≤ 1048576 := by rw [HN.out]; exact Nat.le_trans (take_flat_le _ _) hT
      have hnl2 : zs.length + xs.length ≤ 1048576 := by rw [← List.length_append]; exact hnl
      go_wp2_with (at_builtin; refine wpList_append_rows (enc := Value.int .i64) (d := 0) (fun _ => rfl) rfl (.tmp 15) (.tmp 16) 22 3 (.int .i64 0) 8 (by decide) Try.info3 rfl Try.underlying22 rfl w.heap.size _ zs rfl HO.out ai ci xs rfl RI.out NI.out (by omega) hsz ?_; intro v1 w1 hown1 hgrow1 hnil1)
      refine ⟨⟨k + 1, zs ++ xs, hlt, by simp, hnl, HN, hown1, below_push HB.out HO.out hgrow1 hsz⟩, by simp [intOf]; omega⟩
    · have HE := hid (show zs = xss.flatten by rw [HZ.out, List.take_of_length_le (by omega)])
      obtain ⟨w1, hw1⟩ : ∃ x, x = wr := ⟨_, rfl⟩
      subst hw1
      have hz1' := HB.out.size
      obtain ⟨hl, ⟨hv, h0⟩ | ⟨ab, ca, cur, hv, hb', hh, h1, h2, h3, h4⟩⟩ := id HO.out
      · have hF0 : xss.flatten = [] := by rw [← HE.out]; exact List.length_eq_zero_iff.1 h0
        subst hv
        have HEm : Hid (∀ k, k < xss.length → xss.getD k [] = []) := fun k hk => by
          have h3 := take_flat_le xss (k + 1)
          rw [take_flat (xs := xss.getD k []) (by rw [List.drop_eq_getElem_cons hk, List.getD_eq_getElem?_getD, List.getElem?_eq_getElem hk]; rfl), List.length_append, hF0] at h3
          exact List.length_eq_zero_iff.1 (by simp only [List.length_nil] at h3; omega)
        clear hl HO HZ hk
        go_wp2_with (at_make; refine wpList_make_full _ rfl _ _ 23 rfl w1.heap.size 22 i0 (.slice none 0 0) 1 Try.underlying23 hi0 hz0 hz1 .i64 .i64 (xss.length : Int) (xss.length : Int) xss.length rfl rfl rfl rfl (by rw [hz2]; omega) (by unfold maxLen; omega) (Nat.le_refl _) ?_; intro w2 hown hgrow)
        have HB2 : Hid (Below w1.heap.size w1 w2) := (Below.refl _ _).grown hgrow (Nat.le_refl _) (by simp)
        have HR2 := hid (rowIs_zero rfl hown)
        clear hown hgrow
        go_loopw [3, 24] (fun v i wr => ∃ (k : Nat) (f : Nat → Value), k ≤ xss.length ∧ i = .int .i64 k ∧ v = .slice none 0 0 ∧ Hid (wr.rowIs w1.heap.size 22 xss.length f) ∧ Hid (FilledN wr w1.heap.size xss k f) ∧ Hid (Below w1.heap.size w1 wr)) (fun _ i _ => xss.length - (intOf i).toNat)
        case atStart => exact ⟨0, _, Nat.zero_le _, rfl, rfl, HR2, fun i hi => by omega, HB2⟩
        case round =>
          obtain ⟨k, f, hk, rfl, rfl, HR, HFi, HBr⟩ := hrel
          have D := hid (below_next HB.out HBr.out)
          by_cases hlt : k < xss.length
          · obtain ⟨b, off, ai, ci, xs, rfl, d1, _, _, _, HX, HD⟩ := hr.out.get D.out hlt
            obtain rfl : xs = [] := by rw [← HX.out]; exact HEm.out k hlt
            have HIn : Hid (InnerN wr w1.heap.size (xss.getD k []) (.slice none 0 0)) := by
              rw [HX.out]
              exact ⟨_, _, rfl, Nat.le_refl _, row_nil _ _, fun _ => ⟨rfl, rfl⟩, fun x h => (by cases h)⟩
            have e1 := HR.out.frozen k
            have d2 := HR.out.cell (i := k) hlt
            have HR3 := hid (HR.out.set k (.slice none 0 0))
            have HF3 := hid (filledN_step HFi.out HIn.out)
            have HB3 : Hid (Below w1.heap.size w1 (wr.setCell ⟨w1.heap.size, k, none⟩ (.slice none 0 0))) := HBr.out.setCell (Nat.le_refl _) _
            clear HX HD HIn
            go_wp2_with fail
            go_region
            all_goals
              go_wp2_with fail
              exact ⟨⟨k + 1, _, hlt, by simp, by simp, HR3.out.drew, HF3.out, HB3.out.drew⟩, by simp [intOf]; omega⟩
          · have hke := hid (show k = xss.length by omega)
            go_wp2_with fail
            go_ret
            exact ⟨⟨_, _, rfl, lrow_filledN HR.out (by have := HFi.out; rw [hke.out] at this; exact this), fun h => (by cases h), fun x h => (by cases h; exact hz1')⟩, D⟩
      · obtain ⟨a1, c1, e1, l1, RF, _, _⟩ := retRow_own (d := (0 : Int)) HO.out
        rw [hv] at e1
        injection e1 with e1
        injection e1 with e1 _ e3
        subst e1 e3
        have HF := hid (show Row (Value.int .i64) 0 w1 (some ⟨ab, 0, none⟩) xss.flatten by rw [← HE.out]; exact RF.out)
        have hab : ab < w1.heap.size := (Array.getElem?_eq_some_iff.1 hh).1
        have hN : ab ≠ w1.heap.size := by omega
        have hzF := hid (show zs.length = xss.flatten.length by rw [HE.out])
        subst hv
        clear hh h1 h2 h3 h4 hl RF HO HZ cur hk
        go_wp2_with (at_make; refine wpList_make_full _ rfl _ _ 23 rfl w1.heap.size 22 i0 (.slice none 0 0) 1 Try.underlying23 hi0 hz0 hz1 .i64 .i64 (xss.length : Int) (xss.length : Int) xss.length rfl rfl rfl rfl (by rw [hz2]; omega) (by unfold maxLen; omega) (Nat.le_refl _) ?_; intro w2 hown hgrow)
        have HB2 : Hid (Below w1.heap.size w1 w2) := (Below.refl _ _).grown hgrow (Nat.le_refl _) (by simp)
        have HR2 := hid (rowIs_zero rfl hown)
        clear hown hgrow
        go_loopw [3, 24] (fun v i wr => ∃ (k o p : Nat) (f : Nat → Value), k ≤ xss.length ∧ i = .int .i64 k ∧ v = .slice (some ⟨ab, p, none⟩) (zs.length - o) (ca - o) ∧ Hid (p = o ∨ ca - o = 0) ∧ o ≤ zs.length ∧ Hid (o = (xss.take k).flatten.length) ∧ Hid (wr.rowIs w1.heap.size 22 xss.length f) ∧ Hid (FilledN wr w1.heap.size xss k f) ∧ Hid (Below w1.heap.size w1 wr)) (fun _ i _ => xss.length - (intOf i).toNat)
        case atStart => exact ⟨0, 0, 0, _, Nat.zero_le _, rfl, rfl, .inl rfl, Nat.zero_le _, by show _ = _; simp, HR2, fun i hi => by omega, HB2⟩
        case round =>
          obtain ⟨k, o, p, f, hk, rfl, rfl, HPO, ho, HOf, HR, HFi, HBr⟩ := hrel
          have D := hid (below_next HB.out HBr.out)
          by_cases hlt : k < xss.length
          · obtain ⟨b, off, ai, ci, xs, rfl, d1, _, _, _, HX, HD⟩ := hr.out.get D.out hlt
            have hox : o + xs.length ≤ zs.length := by
              have e : (xss.take (k + 1)).flatten.length = (xss.take k).flatten.length + xs.length := by rw [take_flat HD.out, List.length_append]
              have := take_flat_le xss (k + 1)
              have := HOf.out
              have := hzF.out
              omega
            have HO2 := hid (show o + xs.length = (xss.take (k + 1)).flatten.length by rw [take_flat HD.out, List.length_append, HOf.out])
            have HIn : Hid (InnerN wr w1.heap.size (xss.getD k []) (.slice (some ⟨ab, p, none⟩) xs.length xs.length)) := by
              rw [HX.out]
              rcases HPO.out with h | h
              · have := cut_inner HF.out HBr.out hab hN hlt HX.out
                rw [← HOf.out, ← h] at this; exact this
              · have hx0 : xs = [] := List.length_eq_zero_iff.1 (by omega)
                subst hx0
                exact ⟨_, _, rfl, Nat.le_refl _, row_nil _ _, fun h => (by cases h), fun x h => (by cases h; exact ⟨hN, Nat.lt_of_lt_of_le hab HBr.out.size⟩)⟩
            have q1 : xs.length ≤ zs.length - o := by omega
            have q2 : xs.length ≤ ca - o := by omega
            have e1 := HR.out.frozen k
            have d2 := HR.out.cell (i := k) hlt
            have HR3 := hid (HR.out.set k (.slice (some ⟨ab, p, none⟩) xs.length xs.length))
            have HF3 := hid (filledN_step HFi.out HIn.out)
            have HB3 : Hid (Below w1.heap.size w1 (wr.setCell ⟨w1.heap.size, k, none⟩ (.slice (some ⟨ab, p, none⟩) xs.length xs.length))) := HBr.out.setCell (Nat.le_refl _) _
            clear HX HD HOf HIn
            by_cases hcap : ca - o = xs.length
            · have HP2 := hid (show p = o + xs.length ∨ ca - (o + xs.length) = 0 from .inr (by omega))
              have hs1 : zs.length - o - xs.length = zs.length - (o + xs.length) := by omega
              have hs2 : ca - o - xs.length = ca - (o + xs.length) := by omega
              go_wp2_with fail
              go_region
              all_goals
                go_wp2_with fail
                exact ⟨⟨k + 1, o + xs.length, p, _, hlt, by simp, by (simp; omega), HP2, hox, HO2, HR3.out.drew, HF3.out, HB3.out.drew⟩, by simp [intOf]; omega⟩
            · have hpo := hid (show p = o by
                rcases HPO.out with h | h
                · exact h
                · omega)
              have hs1 : zs.length - o - xs.length = zs.length - (o + xs.length) := by omega
              have hs2 : ca - o - xs.length = ca - (o + xs.length) := by omega
              go_wp2_with fail
              go_region
              all_goals
                go_wp2_with fail
                exact ⟨⟨k + 1, o + xs.length, p + xs.length, _, hlt, by simp, by first | (simp; done) | (simp; omega), hid (.inl (by rw [hpo.out])), hox, HO2, HR3.out.drew, HF3.out, HB3.out.drew⟩, by simp [intOf]; omega⟩
          · have hke := hid (show k = xss.length by omega)
            go_wp2_with fail
            go_ret
            exact ⟨⟨_, _, rfl, lrow_filledN HR.out (by have := HFi.out; rw [hke.out] at this; exact this), fun h => (by cases h), fun x h => (by cases h; exact hz1')⟩, D⟩
end Go.Proofs.Qxb6605294a
