import Derived.Test.Qxb6605195aWalk4
import Derived.Shelf.Sort.Plain
import Derived.Shelf.Slices.In.SortNone
import Derived.Shelf.SlicesE.Compact
import Derived.Shelf.Lay
import Derived.Ground.SlgnProg
import Derived.Ground.NamesProg
set_option maxRecDepth 100000
namespace Go.Proofs
open Go.Shelf Go.RowKit Go.Lib Go.Sort
shelf_lay Lays.n189 Nm 189 at Try as Try.laysSort
shelf_lay_g SlLaysE.n43 Slgn 43 at Try 52 as Try.laysCompact
end Go.Proofs
namespace Go.Proofs.Qxb6605195a
open Go.ChangeShapes Go.WideShapes Go.ChangeAt Go.RowKit Plain
open Go.Shelf Go.Lib Go.Sort
set_option linter.unusedVariables false

/-! ### plain: a sorted list, each once -/
/-- strictly increasing -/
def Inc (L : List Int) : Prop := L.Pairwise (· < ·)
theorem compact_inv (d : Array Int) (hs : ∀ i j, i ≤ j → j < d.size → d[i]! ≤ d[j]!) : ∀ m, m ≤ d.size → Inc (compactUpTo d m) ∧ (∀ x, x ∈ compactUpTo d m ↔ ∃ j, j < m ∧ d[j]! = x) ∧ (compactUpTo d m).length ≤ m := by
  intro m
  induction m with
  | zero => intro _; exact ⟨by simp [compactUpTo, Inc], by simp [compactUpTo], by simp [compactUpTo]⟩
  | succ m ih =>
    intro hm
    obtain ⟨h1, h2, h3⟩ := ih (by omega)
    rw [compactUpTo_succ]
    by_cases hk : keeps d m = true
    · rw [if_pos hk]
      refine ⟨?_, ?_, by simp; omega⟩
      · refine List.pairwise_append.2 ⟨h1, by simp, ?_⟩
        intro a ha b hb
        simp only [List.mem_singleton] at hb
        subst hb
        obtain ⟨j, hj, rfl⟩ := (h2 a).1 ha
        simp only [keeps, decide_eq_true_eq] at hk
        have hk' : d[m]! ≠ d[m - 1]! := hk.elim (fun h => by omega) id
        have a1 := hs j (m - 1) (by omega) (by omega)
        have a2 := hs (m - 1) m (by omega) (by omega)
        omega
      · intro x
        simp only [List.mem_append, List.mem_singleton]
        constructor
        · rintro (h | rfl)
          · obtain ⟨j, hj, e⟩ := (h2 x).1 h
            exact ⟨j, by omega, e⟩
          · exact ⟨m, by omega, rfl⟩
        · rintro ⟨j, hj, e⟩
          by_cases ej : j = m
          · subst ej; exact .inr e.symm
          · exact .inl ((h2 x).2 ⟨j, by omega, e⟩)
    · rw [if_neg hk, List.append_nil]
      refine ⟨h1, ?_, by omega⟩
      intro x
      simp only [keeps, decide_eq_true_eq, not_or, Decidable.not_not] at hk
      rw [h2 x]
      constructor
      · rintro ⟨j, hj, e⟩; exact ⟨j, by omega, e⟩
      · rintro ⟨j, hj, e⟩
        by_cases ej : j = m
        · subst ej; exact ⟨j - 1, by omega, by rw [← e, hk.2]⟩
        · exact ⟨j, by omega, e⟩
/-- what 'unique' makes of a list -/
def uniq (zs : List Int) : List Int := compactUpTo (zs.mergeSort fun x y => decide (x ≤ y)).toArray (zs.mergeSort fun x y => decide (x ≤ y)).toArray.size
theorem uniq_spec (zs : List Int) : Inc (uniq zs) ∧ (∀ x, x ∈ uniq zs ↔ x ∈ zs) ∧ (uniq zs).length ≤ zs.length := by
  have hsort : (zs.mergeSort fun x y => decide (x ≤ y)).Pairwise (fun x y => decide (x ≤ y) = true) := List.pairwise_mergeSort (fun a b c h1 h2 => by simp at *; omega) (fun a b => by simp; omega) zs
  have hlen : (zs.mergeSort fun x y => decide (x ≤ y)).length = zs.length := List.length_mergeSort zs
  have hperm := List.mergeSort_perm zs (fun x y => decide (x ≤ y))
  obtain ⟨ys, hys⟩ : ∃ ys, ys = zs.mergeSort fun x y => decide (x ≤ y) := ⟨_, rfl⟩
  unfold uniq
  rw [← hys] at hsort hlen hperm ⊢
  have hget : ∀ i, i < ys.length → ys.toArray[i]! = ys.getD i 0 := by
    intro i hi
    simp [hi]
  obtain ⟨h1, h2, h3⟩ := compact_inv ys.toArray (by
    intro i j hij hj
    simp only [List.size_toArray] at hj
    rw [hget i (by omega), hget j hj]
    by_cases e : i = j
    · subst e; omega
    · have := List.pairwise_iff_getElem.1 hsort i j (by omega) hj (by omega)
      simp only [decide_eq_true_eq] at this
      simpa [List.getD, List.getElem?_eq_getElem (show i < ys.length by omega), List.getElem?_eq_getElem hj] using this) ys.toArray.size (Nat.le_refl _)
  refine ⟨h1, ?_, by simpa [hlen] using h3⟩
  intro x
  rw [h2 x, ← hperm.mem_iff]
  constructor
  · rintro ⟨j, hj, e⟩
    simp only [List.size_toArray] at hj
    rw [hget j hj] at e
    rw [← e]
    simp [List.getD, List.getElem?_eq_getElem hj]
  · intro hx
    obtain ⟨j, hj, e⟩ := List.mem_iff_getElem.1 hx
    exact ⟨j, by simpa using hj, by rw [hget j hj]; simp [List.getD, List.getElem?_eq_getElem hj, e]⟩
end Go.Proofs.Qxb6605195a
