import Derived.Test.Qxb6605294aMain1
set_option maxRecDepth 100000
namespace Go.Proofs.Qxb6605294a
open Go.ChangeShapes Go.WideShapes Go.ChangeAt Go.RowKit
set_option linter.unusedVariables false

theorem tot_flat : ∀ xss : List (List Int), xss.flatten.length = tot xss
  | [] => rfl
  | xs :: xss => by rw [List.flatten_cons, List.length_append, tot_flat xss]; rfl
theorem get_tot : ∀ (xss : List (List Int)) (i : Nat), (xss.getD i []).length ≤ tot xss
  | [], i => by simp
  | xs :: xss, 0 => by show xs.length ≤ xs.length + tot xss; omega
  | xs :: xss, i + 1 => by
    have := get_tot xss i
    show (xss.getD i []).length ≤ xs.length + tot xss
    omega
theorem zipL_cons (x y : List Int) (A0 A1 : List (List Int)) : zipL (x :: A0) (y :: A1) = x.zip y :: zipL A0 A1 := rfl
theorem zipL_fst : ∀ {A0 A1 : List (List Int)}, A1.length = A0.length → (∀ i, i < A0.length → (A1.getD i []).length = (A0.getD i []).length) → A0 = (zipL A0 A1).map (·.map Prod.fst)
  | [], A1, _, _ => by simp [zipL]
  | x :: A0, [], h, _ => by simp at h
  | x :: A0, y :: A1, h, h2 => by
    rw [zipL_cons, List.map_cons, ← zipL_fst (A0 := A0) (A1 := A1) (by simpa using h) (fun i hi => h2 (i + 1) (by simp; omega))]
    have := h2 0 (by simp)
    simp only [List.getD_cons_zero] at this
    rw [List.map_fst_zip (by omega)]
theorem zipL_snd : ∀ {A0 A1 : List (List Int)}, A1.length = A0.length → (∀ i, i < A0.length → (A1.getD i []).length = (A0.getD i []).length) → A1 = (zipL A0 A1).map (·.map Prod.snd)
  | [], A1, h, _ => by
    have : A1 = [] := List.length_eq_zero_iff.1 (by simpa using h)
    subst this; simp [zipL]
  | x :: A0, [], h, _ => by simp at h
  | x :: A0, y :: A1, h, h2 => by
    rw [zipL_cons, List.map_cons, ← zipL_snd (A0 := A0) (A1 := A1) (by simpa using h) (fun i hi => h2 (i + 1) (by simp; omega))]
    have := h2 0 (by simp)
    simp only [List.getD_cons_zero] at this
    rw [List.map_snd_zip (by omega)]
theorem zipL_flat {A0 A1 : List (List Int)} (h : A1.length = A0.length) (h2 : ∀ i, i < A0.length → (A1.getD i []).length = (A0.getD i []).length) : (zipL A0 A1).flatten.length = tot A0 := by
  have e := zipL_fst h h2
  rw [← tot_flat]
  conv => rhs; rw [e]
  simp [List.length_flatten, Function.comp_def]
theorem zipL_get_le {A0 A1 : List (List Int)} (h : A1.length = A0.length) (i : Nat) : ((zipL A0 A1).getD i []).length ≤ tot A0 := by
  rw [zipL_get h]
  have := get_tot A0 i
  simp only [List.length_zip]
  omega
theorem row_rep {α : Type} {enc : α → Value} {d : α} {w : World} {b n : Nat} {e : TypeId} (h : w.rowIs b e n (fun _ => enc d)) : Row enc d w (some ⟨b, 0, none⟩) (List.replicate n d) := by
  refine row_filled (e := e) (f := fun _ => enc d) (by rw [List.length_replicate]; exact h) (fun i hi => ?_)
  rw [List.getD_eq_getElem?_getD]
  by_cases hi : i < n
  · rw [List.getElem?_replicate_of_lt hi]; rfl
  · rw [List.getElem?_eq_none (by simp; omega)]; rfl
end Go.Proofs.Qxb6605294a
