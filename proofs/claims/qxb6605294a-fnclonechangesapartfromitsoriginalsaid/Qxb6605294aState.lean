import Derived.Test.Qxb6605294aGrow
import Derived.Test.Qxb6605294aGrowL
import Derived.Test.Qxb6605294aMain2
set_option maxRecDepth 100000
namespace Go.Proofs.Qxb6605294a
open Go.ChangeShapes Go.WideShapes Go.ChangeAt Go.RowKit
set_option linter.unusedVariables false

abbrev lenf {α : Type} (xss : List (List α)) (i : Nat) : Nat := (xss.getD i []).length
abbrev offs {α : Type} (xss : List (List α)) (i : Nat) : Nat := (xss.take i).flatten.length
abbrev vals (xss : List (List Int)) (i j : Nat) : Int := (xss.getD i []).getD j 0
abbrev valp (xss : List (List (Int × Int))) (i j : Nat) : Int × Int := (xss.getD i []).getD j (0, 0)
theorem offs_succ {α : Type} (xss : List (List α)) {i : Nat} (hi : i < xss.length) : offs xss (i + 1) = offs xss i + lenf xss i := by
  unfold offs lenf
  rw [take_flat (xs := xss.getD i []) (by rw [List.drop_eq_getElem_cons hi, List.getD_eq_getElem?_getD, List.getElem?_eq_getElem hi]; rfl), List.length_append]
theorem offs_mono {α : Type} (xss : List (List α)) {i j : Nat} (h : i < j) (hi : i < xss.length) : offs xss i + lenf xss i ≤ offs xss j := by
  induction j with
  | zero => omega
  | succ j ih =>
    by_cases e : i = j
    · subst e; rw [offs_succ xss hi]; exact Nat.le_refl _
    · have := ih (by omega)
      by_cases hj : j < xss.length
      · rw [offs_succ xss hj]; omega
      · have e1 : offs xss (j + 1) = offs xss j := by
          unfold offs
          rw [List.take_of_length_le (by omega), List.take_of_length_le (by omega)]
        omega
theorem offs_inj {α : Type} (xss : List (List α)) {i j i' j' : Nat} (hi : i < xss.length) (hi' : i' < xss.length) (hj : j < lenf xss i) (hj' : j' < lenf xss i') (h : offs xss i + j = offs xss i' + j') : i = i' ∧ j = j' := by
  rcases Nat.lt_trichotomy i i' with hlt | heq | hgt
  · have := offs_mono xss hlt hi; omega
  · subst heq; exact ⟨rfl, by omega⟩
  · have := offs_mono xss hgt hi'; omega
theorem own_row {w : World} {B : Nat} {e : TypeId} {size n b : Nat} {v : Value} {l : List Value} (h : w.ownsRow B e size v n l) (hb : v.ownBlock = some b) : ∃ m f, w.rowIs b e m f := own_tag h hb
theorem cut_cell {w : World} {S i j b : Nat} {xss : List (List Int)} {v : Value} (hv : Own3 w S xss.flatten v) (hb : v.ownBlock = some b) (hi : i < xss.length) (hj : j < lenf xss i) : w.cell? ⟨b, offs xss i + j, none⟩ = some (.int .i64 (vals xss i j)) := by
  obtain ⟨a1, c1, e1, l1, RF, _, _⟩ := retRow_own (d := (0 : Int)) hv
  injection e1 with e1
  have hlen := flat_lt hi hj
  obtain ⟨b', off, e2, hcc⟩ := RF.out (by omega)
  subst e2
  rw [e1] at hb
  simp only [Value.ownBlock, Option.some.injEq] at hb
  subst hb
  have h2 := hcc _ hlen
  rw [flat_at 0 xss i j hi hj] at h2
  have hoff : off = 0 := by
    obtain ⟨_, ⟨hv', _⟩ | ⟨g', cap, cur, hv', _⟩⟩ := hv
    · rw [e1] at hv'; cases hv'
    · rw [e1] at hv'; cases hv'; rfl
  rw [hoff, Nat.zero_add] at h2
  exact h2
/-- lists cut from one row: a matrix -/
theorem ListAt.mat {w : World} {S T R : Nat} {xss : List (List Int)} {f : Nat → Value} {v : Value} (h : ListAt w S T R xss f v) :
    ∃ ab sz, Mat w R xss.length f (lenf xss) (fun _ => ab) (offs xss) (fun _ => sz) (vals xss) ∧ ∀ i, i < xss.length → 0 < lenf xss i → v.ownBlock = some ab := by
  have hblk : ∀ i, i < xss.length → 0 < lenf xss i → ∃ ab, v.ownBlock = some ab ∧ f i = .slice (some ⟨ab, offs xss i, none⟩) (lenf xss i) (lenf xss i) := by
    intro i hi h0
    obtain ⟨a, ha, ⟨_, _, hx⟩ | ⟨ab, p, hab, rfl, hp⟩⟩ := h.cut i hi
    · unfold lenf at h0; rw [hx] at h0; simp at h0
    · refine ⟨ab, hab, ?_⟩
      rcases hp with hp | hp
      · rw [ha, hp, Nat.mul_one]
      · unfold lenf at h0; rw [hp] at h0; simp at h0
  cases hv : v.ownBlock with
  | none =>
    have hz : ∀ i, i < xss.length → lenf xss i = 0 := fun i hi => by
      rcases Nat.eq_zero_or_pos (lenf xss i) with h0 | h0
      · exact h0
      · obtain ⟨ab, h1, _⟩ := hblk i hi h0
        rw [hv] at h1; cases h1
    refine ⟨0, 0, ⟨h.row, fun i hi => ?_, fun i j hi hj => ?_, fun i hi h0 => ?_, fun i j i' j' hi _ hj => ?_, fun i hi h0 => ?_⟩, fun i hi h0 => ?_⟩
    · obtain ⟨a, ha, hc⟩ := h.cut i hi
      refine ⟨a, _, ha, Nat.le_refl _, fun h0 => ?_, fun hn => ?_⟩
      · have := hz i hi; unfold lenf at h0 this; omega
      · have := hz i hi; unfold lenf at this; exact ⟨this, this⟩
    all_goals have := hz i hi; omega
  | some ab =>
    obtain ⟨sz, g, hg⟩ := own_row h.own hv
    refine ⟨ab, sz, ⟨h.row, fun i hi => ?_, fun i j hi hj => cut_cell h.own hv hi hj, fun i hi h0 => ⟨g, hg⟩, fun i j i' j' hi hi' hj hj' _ he => offs_inj xss hi hi' hj hj' he, fun i hi h0 => (rowIs_ne hg h.row (by decide))⟩, fun i hi h0 => rfl⟩
    obtain ⟨a, ha, hc⟩ := h.cut i hi
    refine ⟨a, _, ha, Nat.le_refl _, fun h0 => ?_, fun hn => ?_⟩
    · obtain ⟨ab', h1, h2⟩ := hblk i hi h0
      rw [hv] at h1; cases h1
      rw [ha] at h2
      injection h2
    · subst hn
      rcases hc with ⟨_, _, hx⟩ | ⟨_, _, _, h', _⟩
      · have e0 : lenf xss i = 0 := by show (xss.getD i []).length = 0; rw [hx]; rfl
        exact ⟨e0, e0⟩
      · cases h'
theorem map_getD_flp (xs : List Int) {j : Nat} (hj : j < xs.length) : (xs.map flp).getD j 0 = flp (xs.getD j 0) := by
  rw [List.getD_eq_getElem?_getD, List.getD_eq_getElem?_getD, List.getElem?_map, List.getElem?_eq_getElem hj]; rfl
/-- flipped lists that were cut from one row have no spare room -/
theorem growIn_cut {w : World} {B R : Nat} {xss : List (List Int)} {f : Nat → Value} {v : Value} {bk of sz : Nat → Nat} (C : CutAt 1 v xss xss.length f) (M : Mat w R xss.length f (lenf xss) bk of sz (fun i j => flp (vals xss i j))) (hR : ∀ b, v.ownBlock = some b → b ≠ R) :
    GrowIn w B R xss.length f (fun _ => False) (fun i => (xss.getD i []).map flp) := by
  refine ⟨M.row, fun i hi => .inl ⟨fun h => h, ?_⟩, fun i b hi hb => ?_, fun i j b _ _ _ hO => absurd hO (fun h => h)⟩
  · obtain ⟨a, ha, hc⟩ := C i hi
    refine ⟨a, by rw [ha, List.length_map], fun hn => ?_, fun b hb j hj => ?_⟩
    · subst hn
      rcases hc with ⟨_, _, hx⟩ | ⟨_, _, _, h', _⟩
      · rw [hx]; rfl
      · cases h'
    · rw [List.length_map] at hj
      rw [map_getD_flp _ hj]
      obtain ⟨a', c', e', _, hp, _⟩ := M.sl i hi
      have := hp (by show 0 < (xss.getD i []).length; omega)
      rw [e'] at ha
      injection ha with ha1 _ _
      rw [ha1, hb] at this
      cases this
      have hc2 := M.cel i j hi hj
      rw [add_at]; exact hc2
  · obtain ⟨a, ha, ⟨_, rfl, _⟩ | ⟨ab, p, hab, rfl, _⟩⟩ := C i hi
    · rw [ha] at hb; simp [Value.ownBlock] at hb
    · rw [ha] at hb; simp only [Value.ownBlock, Option.some.injEq] at hb
      subst hb
      exact hR _ hab
/-- an owned row whose numbers were written anew -/
theorem own_again {w w' : World} {B n g sz : Nat} {v : Value} {l l' : List Value} {f f' : Nat → Value} (h : w.ownsRow B 3 1 v n l) (hv : v.ownBlock = some g) (hr : w.rowIs g 3 sz f) (hr' : w'.rowIs g 3 sz f') (hl : l'.length = n) (hc : ∀ j u, l'[j]? = some u → w'.cell? ⟨g, j, none⟩ = some u) : w'.ownsRow B 3 1 v n l' := by
  obtain ⟨hll, ⟨hv', h0⟩ | ⟨g', cap, cur, hv', hB, hh, h1, h2, h3, h4⟩⟩ := h
  · rw [hv'] at hv; simp [Value.ownBlock] at hv
  · rw [hv'] at hv
    simp only [Value.ownBlock, Option.some.injEq] at hv
    subst hv
    obtain ⟨c1, e1, s1, _⟩ := hr
    obtain ⟨c2, e2, s2, _⟩ := hr'
    rw [hh] at e1
    cases e1
    refine ⟨by rw [hl, Nat.mul_one], .inr ⟨g', cap, c2, hv', hB, e2, h1, h2, by rw [s2, ← s1]; exact h3, ?_⟩⟩
    apply List.ext_getElem?
    intro j
    rw [List.getElem?_take]
    by_cases hj : j < n * 1
    · rw [if_pos hj]
      have hj' : j < l'.length := by omega
      have := hc j _ (List.getElem?_eq_getElem hj')
      simp only [World.cell?, e2] at this
      rw [List.getElem?_eq_getElem hj']
      simpa using this
    · rw [if_neg hj, List.getElem?_eq_none (by omega)]
end Go.Proofs.Qxb6605294a
