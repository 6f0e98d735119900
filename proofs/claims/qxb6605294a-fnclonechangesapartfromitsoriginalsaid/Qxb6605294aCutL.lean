import Derived.Test.Qxb6605294aParts
set_option maxRecDepth 100000
namespace Go.Proofs.Qxb6605294a
open Go.ChangeShapes Go.WideShapes Go.ChangeAt Go.RowKit
set_option linter.unusedVariables false

/-! ### lists cut from one row -/
def CutAt {α : Type} (s : Nat) (v : Value) (xss : List (List α)) (n : Nat) (f : Nat → Value) : Prop :=
  ∀ i, i < n → ∃ a, f i = .slice a (xss.getD i []).length (xss.getD i []).length ∧ ((v = .slice none 0 0 ∧ a = none ∧ xss.getD i [] = []) ∨ ∃ ab p, v.ownBlock = some ab ∧ a = some ⟨ab, p, none⟩ ∧ (p = (xss.take i).flatten.length * s ∨ xss.getD i [] = []))
theorem cutAt_nil {α : Type} {s : Nat} {xss : List (List α)} {n : Nat} {f : Nat → Value} (h : CutAt s (.slice none 0 0) xss n f) (hx : xss.getD n [] = []) : CutAt s (.slice none 0 0) xss (n + 1) (fun j => if j = n then .slice none 0 0 else f j) := by
  intro i hi
  by_cases e : i = n
  · subst e
    exact ⟨none, by dsimp only; rw [if_pos rfl, hx]; rfl, .inl ⟨rfl, rfl, hx⟩⟩
  · obtain ⟨a, h1, h2⟩ := h i (by omega)
    exact ⟨a, by dsimp only; rw [if_neg e]; exact h1, h2⟩
theorem cutAt_some {α : Type} {s : Nat} {xss : List (List α)} {n ab m c p : Nat} {f : Nat → Value} {xs : List α} (h : CutAt s (.slice (some ⟨ab, 0, none⟩) m c) xss n f) (hx : xss.getD n [] = xs) (hp : p = (xss.take n).flatten.length * s ∨ xs = []) : CutAt s (.slice (some ⟨ab, 0, none⟩) m c) xss (n + 1) (fun j => if j = n then .slice (some ⟨ab, p, none⟩) xs.length xs.length else f j) := by
  intro i hi
  by_cases e : i = n
  · subst e
    simp only [if_true]
    exact ⟨_, by rw [hx], .inr ⟨ab, p, rfl, rfl, by rw [hx]; exact hp⟩⟩
  · simp only [if_neg e]; exact h i (by omega)
abbrev Own3 (w : World) (B : Nat) (zs : List Int) (v : Value) : Prop := w.ownsRow B 3 1 v zs.length (zs.map (Value.int .i64))
theorem Own3.below_own {w w' : World} {B : Nat} {zs : List Int} {v : Value} (h : Own3 w B zs v) (hb : Below w.heap.size w w') : Own3 w' B zs v := own_below h hb
/-- lists cut from one row, handed back -/
def RetC (B : Nat) (xss : List (List Int)) (e : Ending) (w' : World) : Prop := ∃ R f v, e = .returned (.slice (some ⟨R, 0, none⟩) xss.length xss.length) ∧ B ≤ R ∧ Hid (w'.rowIs R 22 xss.length f) ∧ Hid (Own3 w' B xss.flatten v) ∧ Hid (CutAt 1 v xss xss.length f)
theorem flat_lt {α : Type} {xss : List (List α)} {k j : Nat} (hk : k < xss.length) (hj : j < (xss.getD k []).length) : (xss.take k).flatten.length + j < xss.flatten.length := by
  have e : (xss.take (k + 1)).flatten.length = (xss.take k).flatten.length + (xss.getD k []).length := by
    rw [take_flat (xs := xss.getD k []) (by rw [List.drop_eq_getElem_cons hk, List.getD_eq_getElem?_getD, List.getElem?_eq_getElem hk]; rfl), List.length_append]
  have := take_flat_le xss (k + 1)
  omega
theorem lrow_cut {w : World} {B R : Nat} {xss : List (List Int)} {f : Nat → Value} {v : Value} {e : TypeId} (hR : w.rowIs R e xss.length f) (hv : Own3 w B xss.flatten v) (hc : CutAt 1 v xss xss.length f) : LRow w (some ⟨R, 0, none⟩) xss := by
  refine fun _ => ⟨R, 0, f, rfl, hR.lt, fun i hi => ?_⟩
  rw [Nat.zero_add]
  refine ⟨hR.cell hi, ?_⟩
  obtain ⟨a, ha, ⟨_, rfl, hx⟩ | ⟨ab, p, hab, rfl, hp⟩⟩ := hc i hi
  · rw [ha, hx]
    exact ⟨_, _, rfl, Nat.le_refl _, row_nil _ _, fun _ => ⟨rfl, rfl⟩⟩
  · refine ⟨_, _, ha, Nat.le_refl _, ?_, fun h => (by cases h)⟩
    intro h0
    obtain ⟨a1, c1, e1, l1, RF, _, _⟩ := retRow_own (d := (0 : Int)) hv
    injection e1 with e1
    have hp' : p = (xss.take i).flatten.length := by
      rcases hp with h | h
      · rw [h, Nat.mul_one]
      · rw [h] at h0; simp at h0
    refine ⟨ab, p, rfl, fun j hj => ?_⟩
    have hlen := flat_lt hi hj
    obtain ⟨b, off, e2, hcc⟩ := RF.out (by omega)
    subst e2
    rw [e1] at hab
    simp only [Value.ownBlock, Option.some.injEq] at hab
    subst hab
    have h2 := hcc _ hlen
    rw [flat_at 0 xss i j hi hj] at h2
    have hoff : off = 0 := by
      obtain ⟨_, ⟨hv', _⟩ | ⟨g', cap, cur, hv', _⟩⟩ := hv
      · rw [e1] at hv'; cases hv'
      · rw [e1] at hv'; cases hv'; rfl
    rw [hoff, Nat.zero_add] at h2
    rw [hp']; exact h2
set_option maxHeartbeats 4000000 in
theorem cloneLists_cut (a : Option Addr) (cap : Nat) (xss : List (List Int)) (w : World) (hm : xss.length ≤ 1048576) (hT : xss.flatten.length ≤ 1048576) (hr : Hid (LRow w a xss)) :
    Calls Try.prog 68 #[.slice a xss.length cap] w fun e w' => RetC w.heap.size xss e w' ∧ Hid (Below w.heap.size w w') := by
  obtain ⟨i0, hi0, hz0, hz1, hz2⟩ := info_parts Try.info22
  go_enter Try.func68, Try.ntmps68
  go_wp2_with fail
  go_loopw [3, 11] (fun v i wr => ∃ (k : Nat) (zs : List Int), k ≤ xss.length ∧ i = .int .i64 k ∧ zs.length ≤ 1048576 ∧ Hid (zs = (xss.take k).flatten) ∧ Hid (wr.ownsRow w.heap.size 3 1 v zs.length (zs.map (Value.int .i64))) ∧ Hid (Below w.heap.size w wr)) (fun _ i _ => xss.length - (intOf i).toNat)
  case atStart => exact ⟨0, [], Nat.zero_le _, rfl, by simp, by show _ = _; simp, World.ownsRow_nil _ _ _ _, Below.refl _ _⟩
  case round =>
    obtain ⟨k, zs, hk, rfl, hzl, HZ, HO, HB⟩ := hrel
    have hsz := HB.out.size
    by_cases hlt : k < xss.length
    · obtain ⟨b, off, ai, ci, xs, rfl, c1, hbl, RI, NI, HX, HD⟩ := hr.out.get HB.out hlt
      have HN := hid (show zs ++ xs = (xss.take (k + 1)).flatten by rw [take_flat HD.out, HZ.out])
      have hnl : (zs ++ xs).length ≤ 1048576 := by rw [HN.out]; exact Nat.le_trans (take_flat_le _ _) hT
      have hnl2 : zs.length + xs.length ≤ 1048576 := by rw [← List.length_append]; exact hnl
      go_wp2_with (at_builtin; refine wpList_append_rows (enc := Value.int .i64) (d := 0) (fun _ => rfl) rfl (.tmp 15) (.tmp 16) 22 3 (.int .i64 0) 8 (by decide) Try.info3 rfl Try.underlying22 rfl w.heap.size _ zs rfl HO.out ai ci xs rfl RI.out NI.out (by omega) hsz ?_; intro v1 w1 hown1 hgrow1 hnil1)
      refine ⟨⟨k + 1, zs ++ xs, hlt, by simp, hnl, HN, hown1, below_push HB.out HO.out hgrow1 hsz⟩, by simp [intOf]; omega⟩
    · have HE := hid (show zs = xss.flatten by rw [HZ.out, List.take_of_length_le (by omega)])
      obtain ⟨w1, hw1⟩ : ∃ x, x = wr := ⟨_, rfl⟩
      subst hw1
      have hz1' := HB.out.size
      obtain ⟨hl, ⟨hv, h0⟩ | ⟨ab, ca, cur, hv, hb', hh, h1, h2, h3, h4⟩⟩ := id HO.out
      · have hF0 : xss.flatten = [] := by rw [← HE.out]; exact List.length_eq_zero_iff.1 h0
        subst hv
        have HEm : Hid (∀ k, k < xss.length → xss.getD k [] = []) := fun k hk => by
          have h3 := take_flat_le xss (k + 1)
          rw [take_flat (xs := xss.getD k []) (by rw [List.drop_eq_getElem_cons hk, List.getD_eq_getElem?_getD, List.getElem?_eq_getElem hk]; rfl), List.length_append, hF0] at h3
          exact List.length_eq_zero_iff.1 (by simp only [List.length_nil] at h3; omega)
        have HON : Hid (Own3 w1 w.heap.size xss.flatten (.slice none 0 0)) := by
          have := HO.out
          rw [HE.out] at this
          exact this
        clear hl HO HZ hk
        go_wp2_with (at_make; refine wpList_make_full _ rfl _ _ 23 rfl w1.heap.size 22 i0 (.slice none 0 0) 1 Try.underlying23 hi0 hz0 hz1 .i64 .i64 (xss.length : Int) (xss.length : Int) xss.length rfl rfl rfl rfl (by rw [hz2]; omega) (by unfold maxLen; omega) (Nat.le_refl _) ?_; intro w2 hown hgrow)
        have HB2 : Hid (Below w1.heap.size w1 w2) := (Below.refl _ _).grown hgrow (Nat.le_refl _) (by simp)
        have HR2 := hid (rowIs_zero rfl hown)
        clear hown hgrow
        go_loopw [3, 24] (fun v i wr => ∃ (k : Nat) (f : Nat → Value), k ≤ xss.length ∧ i = .int .i64 k ∧ v = .slice none 0 0 ∧ Hid (wr.rowIs w1.heap.size 22 xss.length f) ∧ Hid (CutAt 1 (.slice none 0 0) xss k f) ∧ Hid (Below w1.heap.size w1 wr)) (fun _ i _ => xss.length - (intOf i).toNat)
        case atStart => exact ⟨0, _, Nat.zero_le _, rfl, rfl, HR2, fun i hi => by omega, HB2⟩
        case round =>
          obtain ⟨k, f, hk, rfl, rfl, HR, HFi, HBr⟩ := hrel
          have D := hid (below_next HB.out HBr.out)
          by_cases hlt : k < xss.length
          · obtain ⟨b, off, ai, ci, xs, rfl, d1, _, _, _, HX, HD⟩ := hr.out.get D.out hlt
            obtain rfl : xs = [] := by rw [← HX.out]; exact HEm.out k hlt
            have HIn := hid (cutAt_nil HFi.out HX.out)
            have e1 := HR.out.frozen k
            have d2 := HR.out.cell (i := k) hlt
            have HR3 := hid (HR.out.set k (.slice none 0 0))
            have HF3 := HIn
            have HB3 : Hid (Below w1.heap.size w1 (wr.setCell ⟨w1.heap.size, k, none⟩ (.slice none 0 0))) := HBr.out.setCell (Nat.le_refl _) _
            clear HX HD HIn
            go_wp2_with fail
            go_region
            all_goals
              go_wp2_with fail
              exact ⟨⟨k + 1, _, hlt, by simp, by simp, HR3.out.drew, HF3.out, HB3.out.drew⟩, by simp [intOf]; omega⟩
          · have hke := hid (show k = xss.length by omega)
            go_wp2_with fail
            go_ret
            exact ⟨⟨_, _, _, rfl, hz1', HR, HON.out.below_own HBr.out, by have := HFi.out; rw [hke.out] at this; exact this⟩, D⟩
      · obtain ⟨a1, c1, e1, l1, RF, _, _⟩ := retRow_own (d := (0 : Int)) HO.out
        rw [hv] at e1
        injection e1 with e1
        injection e1 with e1 _ e3
        subst e1 e3
        have HF := hid (show Row (Value.int .i64) 0 w1 (some ⟨ab, 0, none⟩) xss.flatten by rw [← HE.out]; exact RF.out)
        have hab : ab < w1.heap.size := (Array.getElem?_eq_some_iff.1 hh).1
        have hN : ab ≠ w1.heap.size := by omega
        have hzF := hid (show zs.length = xss.flatten.length by rw [HE.out])
        subst hv
        have HON : Hid (Own3 w1 w.heap.size xss.flatten (.slice (some ⟨ab, 0, none⟩) zs.length ca)) := by
          have := HO.out
          rw [HE.out] at this
          rw [HE.out]
          exact this
        clear hh h1 h2 h3 h4 hl RF HO HZ cur hk
        go_wp2_with (at_make; refine wpList_make_full _ rfl _ _ 23 rfl w1.heap.size 22 i0 (.slice none 0 0) 1 Try.underlying23 hi0 hz0 hz1 .i64 .i64 (xss.length : Int) (xss.length : Int) xss.length rfl rfl rfl rfl (by rw [hz2]; omega) (by unfold maxLen; omega) (Nat.le_refl _) ?_; intro w2 hown hgrow)
        have HB2 : Hid (Below w1.heap.size w1 w2) := (Below.refl _ _).grown hgrow (Nat.le_refl _) (by simp)
        have HR2 := hid (rowIs_zero rfl hown)
        clear hown hgrow
        go_loopw [3, 24] (fun v i wr => ∃ (k o p : Nat) (f : Nat → Value), k ≤ xss.length ∧ i = .int .i64 k ∧ v = .slice (some ⟨ab, p, none⟩) (zs.length - o) (ca - o) ∧ Hid (p = o ∨ ca - o = 0) ∧ o ≤ zs.length ∧ Hid (o = (xss.take k).flatten.length) ∧ Hid (wr.rowIs w1.heap.size 22 xss.length f) ∧ Hid (CutAt 1 (.slice (some ⟨ab, 0, none⟩) zs.length ca) xss k f) ∧ Hid (Below w1.heap.size w1 wr)) (fun _ i _ => xss.length - (intOf i).toNat)
        case atStart => exact ⟨0, 0, 0, _, Nat.zero_le _, rfl, rfl, .inl rfl, Nat.zero_le _, by show _ = _; simp, HR2, fun i hi => by omega, HB2⟩
        case round =>
          obtain ⟨k, o, p, f, hk, rfl, rfl, HPO, ho, HOf, HR, HFi, HBr⟩ := hrel
          have D := hid (below_next HB.out HBr.out)
          by_cases hlt : k < xss.length
          · obtain ⟨b, off, ai, ci, xs, rfl, d1, _, _, _, HX, HD⟩ := hr.out.get D.out hlt
            have hox : o + xs.length ≤ zs.length := by
              have e : (xss.take (k + 1)).flatten.length = (xss.take k).flatten.length + xs.length := by rw [take_flat HD.out, List.length_append]
              have := take_flat_le xss (k + 1)
              have := HOf.out
              have := hzF.out
              omega
            have HO2 := hid (show o + xs.length = (xss.take (k + 1)).flatten.length by rw [take_flat HD.out, List.length_append, HOf.out])
            have HIn := hid (cutAt_some (s := 1) HFi.out HX.out (p := p) (by
              rcases HPO.out with h | h
              · exact .inl (by rw [h, HOf.out, Nat.mul_one])
              · exact .inr (List.length_eq_zero_iff.1 (by omega))))
            have q1 : xs.length ≤ zs.length - o := by omega
            have q2 : xs.length ≤ ca - o := by omega
            have e1 := HR.out.frozen k
            have d2 := HR.out.cell (i := k) hlt
            have HR3 := hid (HR.out.set k (.slice (some ⟨ab, p, none⟩) xs.length xs.length))
            have HF3 := HIn
            have HB3 : Hid (Below w1.heap.size w1 (wr.setCell ⟨w1.heap.size, k, none⟩ (.slice (some ⟨ab, p, none⟩) xs.length xs.length))) := HBr.out.setCell (Nat.le_refl _) _
            clear HX HD HOf HIn
            by_cases hcap : ca - o = xs.length
            · have HP2 := hid (show p = o + xs.length ∨ ca - (o + xs.length) = 0 from .inr (by omega))
              have hs1 : zs.length - o - xs.length = zs.length - (o + xs.length) := by omega
              have hs2 : ca - o - xs.length = ca - (o + xs.length) := by omega
              go_wp2_with fail
              go_region
              all_goals
                go_wp2_with fail
                exact ⟨⟨k + 1, o + xs.length, p, _, hlt, by simp, by (simp; omega), HP2, hox, HO2, HR3.out.drew, HF3.out, HB3.out.drew⟩, by simp [intOf]; omega⟩
            · have hpo := hid (show p = o by
                rcases HPO.out with h | h
                · exact h
                · omega)
              have hs1 : zs.length - o - xs.length = zs.length - (o + xs.length) := by omega
              have hs2 : ca - o - xs.length = ca - (o + xs.length) := by omega
              go_wp2_with fail
              go_region
              all_goals
                go_wp2_with fail
                exact ⟨⟨k + 1, o + xs.length, p + xs.length, _, hlt, by simp, by first | (simp; done) | (simp; omega), hid (.inl (by rw [hpo.out])), hox, HO2, HR3.out.drew, HF3.out, HB3.out.drew⟩, by simp [intOf]; omega⟩
          · have hke := hid (show k = xss.length by omega)
            go_wp2_with fail
            go_ret
            exact ⟨⟨_, _, _, rfl, hz1', HR, HON.out.below_own HBr.out, by have := HFi.out; rw [hke.out] at this; exact this⟩, D⟩
end Go.Proofs.Qxb6605294a
