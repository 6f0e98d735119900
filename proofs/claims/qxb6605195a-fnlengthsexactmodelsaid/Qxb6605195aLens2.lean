import Derived.Test.Qxb6605195aLens
import Derived.Test.Qxb6605195aSums
import Derived.Test.Qxb6605195aBuild2
set_option maxRecDepth 100000
namespace Go.Proofs.Qxb6605195a
open Go.ChangeShapes Go.WideShapes Go.ChangeAt Go.RowKit Plain
set_option linter.unusedVariables false

theorem plusW_eq {X Y : List Int} {p q : Nat} (hx : Upto p X) (hy : Upto q Y) (hs : small (p + q)) : plusW X Y = plusL X Y := by
  unfold plusW plusL
  unfold small at hs
  induction X with
  | nil => rfl
  | cons x X ih =>
    simp only [List.flatMap_cons]
    rw [ih (fun z hz => hx z (by simp [hz]))]
    congr 1
    apply List.map_congr_left
    intro y hyY
    have h1 := hx x (by simp)
    have h2 := hy y hyY
    unfold wrap64
    omega
theorem lensC_drop {ts : List Tr} {k : Nat} (S : List Int) (h : k < ts.length) : lensC S (ts.drop k) = lensC (sumL S (lens (kid ts k))) (ts.drop (k + 1)) := by
  rw [drop_kid h]; rfl
theorem lensA_drop {ts : List Tr} {k : Nat} (h : k < ts.length) : lensA (ts.drop k) = lens (kid ts k) ++ lensA (ts.drop (k + 1)) := by
  rw [drop_kid h]; rfl
theorem fitsC_drop {ts : List Tr} {k : Nat} (S : List Int) (h : k < ts.length) : fitsC S (ts.drop k) = (fits (kid ts k) ∧ (lens (kid ts k)).length ≤ 256 ∧ (sumL S (lens (kid ts k))).length ≤ 256 ∧ fitsC (sumL S (lens (kid ts k))) (ts.drop (k + 1))) := by
  rw [drop_kid h]; rfl
theorem fitsA_drop {ts : List Tr} {k : Nat} (h : k < ts.length) : fitsA (ts.drop k) = (fits (kid ts k) ∧ (lens (kid ts k)).length ≤ 256 ∧ fitsA (ts.drop (k + 1))) := by
  rw [drop_kid h]; rfl
theorem raw_le_rawM : ∀ {ts : List Tr} {k : Nat}, k < ts.length → raw (kid ts k) ≤ rawM ts
  | [], k, h => absurd h (by simp)
  | t :: ts, 0, h => by rw [kid_zero]; exact Nat.le_max_left _ _
  | t :: ts, k + 1, h => by rw [kid_succ]; exact Nat.le_trans (raw_le_rawM (by simpa using h)) (Nat.le_max_right _ _)

/-! ### concatenation -/
def CatRel (subs : List Tr) (k : Nat) (S : List Int) : Prop :=
  refL subs = refL (subs.drop k) ∧ (small (rawS subs) → ∃ p, p + rawS (subs.drop k) = rawS subs ∧ Inc S ∧ Upto p S ∧ lensC S (subs.drop k) = lensC [0] subs ∧ (fitsC S (subs.drop k) → fitsC [0] subs))
theorem relC_start (subs : List Tr) : CatRel subs 0 [0] := ⟨rfl, fun _ => ⟨0, by simp, inc_one 0, upto_zero 0, rfl, id⟩⟩
theorem relC_sum {subs : List Tr} {k : Nat} {S L : List Int} {b : Bool} (h : CatRel subs k S) (hk : k < subs.length) (hL : LenOf (kid subs k) b true L) (hs : small (rawS subs)) :
    ∃ p, p + raw (kid subs k) + rawS (subs.drop (k + 1)) = rawS subs ∧ uniq (plusW S L) = sumL S (lens (kid subs k)) ∧ Upto p S ∧ lensC (sumL S (lens (kid subs k))) (subs.drop (k + 1)) = lensC [0] subs := by
  obtain ⟨p, h1, h2, h3, h4, _⟩ := h.2 hs
  rw [rawS_drop hk] at h1
  rw [lensC_drop S hk] at h4
  have hsk : small (raw (kid subs k)) := small_le hs (by omega)
  have hLe := (lenOf_yes hL).2.2 hsk
  subst hLe
  refine ⟨p, by omega, ?_, h3, h4⟩
  rw [plusW_eq h3 (lens_ok (kid subs k)).2 (small_le hs (by omega))]; rfl
theorem relC_next {subs : List Tr} {k : Nat} {S L : List Int} {b : Bool} (h : CatRel subs k S) (hk : k < subs.length) (hL : LenOf (kid subs k) b true L) (h256 : (uniq (plusW S L)).length ≤ 256) : CatRel subs (k + 1) (uniq (plusW S L)) := by
  refine ⟨?_, fun hs => ?_⟩
  · rw [h.1, refL_drop hk, (lenOf_yes hL).1]; rfl
  · obtain ⟨p, h1, h2, h3, h4⟩ := relC_sum h hk hL hs
    refine ⟨p + raw (kid subs k), h1, (uniq_spec _).1, by rw [h2]; exact upto_sumL h3 (lens_ok _).2, by rw [h2]; exact h4, fun hF => ?_⟩
    obtain ⟨_, _, _, _, _, h5⟩ := h.2 hs
    have hsk : small (raw (kid subs k)) := small_le hs (by omega)
    refine h5 ?_
    rw [fitsC_drop S hk]
    have hLe := (lenOf_yes hL).2.2 hsk
    exact ⟨lenOf_fits hL hsk, by rw [← hLe]; exact (lenOf_yes hL).2.1, by rw [← h2]; exact h256, by rw [← h2]; exact hF⟩
theorem relC_no {subs : List Tr} {k : Nat} {S L : List Int} {b : Bool} (h : CatRel subs k S) (hk : k < subs.length) (hL : LenOf (kid subs k) b false L) (hr : refL subs = false) (hs : small (rawS subs)) : 256 ≤ rawS subs := by
  obtain ⟨p, h1, _⟩ := h.2 hs
  rw [rawS_drop hk] at h1
  have hr' := h.1
  rw [hr, refL_drop hk] at hr'
  have hrk : refB (kid subs k) = false := by cases hb : refB (kid subs k) with
    | false => rfl
    | true => rw [hb] at hr'; simp at hr'
  have := lenOf_no hL hrk (small_le hs (by omega))
  omega
theorem relC_many {subs : List Tr} {k : Nat} {S L : List Int} {b : Bool} (h : CatRel subs k S) (hk : k < subs.length) (hL : LenOf (kid subs k) b true L) (hm : 256 < (uniq (plusW S L)).length) (hs : small (rawS subs)) : 256 ≤ rawS subs := by
  obtain ⟨p, h1, h2, h3, h4⟩ := relC_sum h hk hL hs
  rw [h2] at hm
  have := upto_len (inc_sumL S (lens (kid subs k))) (upto_sumL h3 (lens_ok (kid subs k)).2)
  omega
theorem relC_end {subs : List Tr} {k : Nat} {S : List Int} (h : CatRel subs k S) (hk : ¬ k < subs.length) : refL subs = false ∧ (small (rawS subs) → S = lensC [0] subs ∧ fitsC [0] subs) := by
  unfold CatRel at h
  rw [List.drop_of_length_le (by omega)] at h
  refine ⟨h.1, fun hs => ?_⟩
  obtain ⟨p, _, _, _, h4, h5⟩ := h.2 hs
  exact ⟨h4, h5 (by simp [fitsC])⟩

/-! ### alternation -/
def AltRel (subs : List Tr) (k : Nat) (zs : List Int) : Prop := refL subs = refL (subs.drop k) ∧ (small (rawM subs) → zs ++ lensA (subs.drop k) = lensA subs ∧ (fitsA (subs.drop k) → fitsA subs))
theorem relA_next {subs : List Tr} {k : Nat} {zs L : List Int} {b : Bool} (h : AltRel subs k zs) (hk : k < subs.length) (hL : LenOf (kid subs k) b true L) : AltRel subs (k + 1) (zs ++ L) := by
  refine ⟨by rw [h.1, refL_drop hk, (lenOf_yes hL).1]; rfl, fun hs => ?_⟩
  obtain ⟨h1, h5⟩ := h.2 hs
  rw [lensA_drop hk] at h1
  have hsk := small_le hs (raw_le_rawM hk)
  have hLe := (lenOf_yes hL).2.2 hsk
  refine ⟨by rw [hLe, List.append_assoc]; exact h1, fun hF => h5 ?_⟩
  rw [fitsA_drop hk]
  exact ⟨lenOf_fits hL hsk, by rw [← hLe]; exact (lenOf_yes hL).2.1, hF⟩
theorem relA_no {subs : List Tr} {k : Nat} {zs L : List Int} {b : Bool} (h : AltRel subs k zs) (hk : k < subs.length) (hL : LenOf (kid subs k) b false L) (hr : refL subs = false) (hs : small (rawM subs)) : 256 ≤ rawM subs := by
  have hr' := h.1
  rw [hr, refL_drop hk] at hr'
  have hrk : refB (kid subs k) = false := by cases hb : refB (kid subs k) with
    | false => rfl
    | true => rw [hb] at hr'; simp at hr'
  have := lenOf_no hL hrk (small_le hs (raw_le_rawM hk))
  have := raw_le_rawM hk
  omega
theorem relA_end {subs : List Tr} {k : Nat} {zs : List Int} (h : AltRel subs k zs) (hk : ¬ k < subs.length) : refL subs = false ∧ (small (rawM subs) → uniq zs = uniq (lensA subs) ∧ fitsA subs) := by
  unfold AltRel at h
  rw [List.drop_of_length_le (by omega)] at h
  refine ⟨h.1, fun hs => ?_⟩
  obtain ⟨this, h5⟩ := h.2 hs
  simp only [lensA, List.append_nil] at this
  exact ⟨by rw [this], h5 (by simp [fitsA])⟩

/-! ### repetition -/
def RepRel (u : Tr) (mn : Int) (m i : Nat) (zs S : List Int) : Prop := small ((m + 1) * raw u) → zs = repAll mn (lens u) i ∧ S = kfold (lens u) i ∧ ∀ j, j ≤ i → (kfold (lens u) j).length ≤ 256
theorem relR_start (u : Tr) (mn : Int) (m : Nat) : RepRel u mn m 0 [] [0] := fun _ => ⟨rfl, rfl, fun j hj => (by simp [Nat.le_zero.1 hj, kfold])⟩
theorem relR_sum {u : Tr} {mn : Int} {m i : Nat} {zs S L : List Int} {b : Bool} (h : RepRel u mn m i zs S) (hi : i ≤ m) (hL : LenOf u b true L) (hs : small ((m + 1) * raw u)) : uniq (plusW S L) = kfold (lens u) (i + 1) := by
  obtain ⟨h1, h2, _⟩ := h hs
  have h3 : (i + 1) * raw u ≤ (m + 1) * raw u := Nat.mul_le_mul_right _ (by omega)
  have h4 : 1 * raw u ≤ (m + 1) * raw u := Nat.mul_le_mul_right _ (by omega)
  rw [Nat.succ_mul] at h3
  have hLe := (lenOf_yes hL).2.2 (small_le hs (by omega))
  subst hLe
  rw [h2, plusW_eq (upto_kfold (lens_ok u).2 i) (lens_ok u).2 (small_le hs h3)]
  rfl
theorem relR_yes {u : Tr} {mn : Int} {m i : Nat} {zs S L : List Int} {b : Bool} (h : RepRel u mn m i zs S) (hi : i ≤ m) (hL : LenOf u b true L) (hm : mn ≤ (i : Int)) (h256 : (uniq (plusW S L)).length ≤ 256) : RepRel u mn m (i + 1) (zs ++ S) (uniq (plusW S L)) := by
  intro hs
  refine ⟨?_, relR_sum h hi hL hs, fun j hj => ?_⟩
  rotate_left
  · by_cases e : j = i + 1
    · subst e; rw [← relR_sum h hi hL hs]; exact h256
    · exact (h hs).2.2 j (by omega)
  obtain ⟨h1, h2, _⟩ := h hs
  rw [h1, h2]; simp [repAll, hm]
theorem relR_not {u : Tr} {mn : Int} {m i : Nat} {zs S L : List Int} {b : Bool} (h : RepRel u mn m i zs S) (hi : i ≤ m) (hL : LenOf u b true L) (hm : ¬ mn ≤ (i : Int)) (h256 : (uniq (plusW S L)).length ≤ 256) : RepRel u mn m (i + 1) zs (uniq (plusW S L)) := by
  intro hs
  refine ⟨?_, relR_sum h hi hL hs, fun j hj => ?_⟩
  rotate_left
  · by_cases e : j = i + 1
    · subst e; rw [← relR_sum h hi hL hs]; exact h256
    · exact (h hs).2.2 j (by omega)
  obtain ⟨h1, h2, _⟩ := h hs
  rw [h1]; simp [repAll, hm]
theorem relR_many {u : Tr} {mn : Int} {m i : Nat} {zs S L : List Int} {b : Bool} (h : RepRel u mn m i zs S) (hi : i ≤ m) (hL : LenOf u b true L) (hm : 256 < (uniq (plusW S L)).length) (hs : small ((m + 1) * raw u)) : 256 ≤ (m + 1) * raw u := by
  rw [relR_sum h hi hL hs] at hm
  have := upto_len (inc_kfold (lens u) (i + 1)) (upto_kfold (lens_ok u).2 (i + 1))
  have h3 : (i + 1) * raw u ≤ (m + 1) * raw u := Nat.mul_le_mul_right _ (by omega)
  omega
end Go.Proofs.Qxb6605195a
