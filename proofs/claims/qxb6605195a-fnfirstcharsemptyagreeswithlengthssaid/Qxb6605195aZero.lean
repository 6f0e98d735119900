import Derived.Test.Qxb6605195aLens
import Derived.Test.Qxb6605195aTree3
set_option maxRecDepth 100000
namespace Go.Proofs.Qxb6605195a
set_option linter.unusedVariables false

mutual
/-- whether the tree can match empty text, as firstChars says it -/
def emptB : Tr → Bool
  | .nil => false
  | .node op _ subs mn _ => if op = 1 then false else if op = 2 then emptL subs else if op = 3 ∨ op = 10 then emptA subs else if op = 4 then (emptH subs || decide (mn = 0)) else if op = 5 ∨ op = 9 then emptH subs else if op = 6 then false else true
def emptL : List Tr → Bool
  | [] => true
  | t :: ts => emptB t && emptL ts
def emptA : List Tr → Bool
  | [] => false
  | t :: ts => emptB t || emptA ts
def emptH : List Tr → Bool
  | [] => false
  | t :: _ => emptB t
end
theorem zero_sumL {X Y : List Int} {p q : Nat} (hx : Upto p X) (hy : Upto q Y) : 0 ∈ sumL X Y ↔ 0 ∈ X ∧ 0 ∈ Y := by
  rw [mem_sumL]
  constructor
  · rintro ⟨x, h1, y, h2, h⟩
    have a := hx x h1
    have b := hy y h2
    have : x = 0 := by omega
    have : y = 0 := by omega
    subst x y
    exact ⟨h1, h2⟩
  · rintro ⟨h1, h2⟩
    exact ⟨0, h1, 0, h2, by omega⟩
theorem zero_kfold {B : List Int} {q : Nat} (hB : Upto q B) : ∀ k, 0 ∈ kfold B k ↔ k = 0 ∨ 0 ∈ B
  | 0 => by simp [kfold]
  | k + 1 => by
    show 0 ∈ sumL (kfold B k) B ↔ _
    rw [zero_sumL (upto_kfold hB k) hB, zero_kfold hB k]
    constructor
    · rintro ⟨_, h⟩; exact .inr h
    · rintro (h | h)
      · omega
      · exact ⟨.inr h, h⟩
theorem mem_repAll {mn : Int} {B : List Int} {x : Int} : ∀ n, x ∈ repAll mn B n ↔ ∃ k, k < n ∧ mn ≤ (k : Int) ∧ x ∈ kfold B k
  | 0 => by simp [repAll]
  | n + 1 => by
    simp only [repAll, List.mem_append, mem_repAll n]
    constructor
    · rintro (⟨k, h1, h2, h3⟩ | h)
      · exact ⟨k, by omega, h2, h3⟩
      · by_cases hm : mn ≤ (n : Int)
        · rw [if_pos hm] at h; exact ⟨n, by omega, hm, h⟩
        · rw [if_neg hm] at h; simp at h
    · rintro ⟨k, h1, h2, h3⟩
      by_cases e : k = n
      · subst e; rw [if_pos h2]; exact .inr h3
      · exact .inl ⟨k, by omega, h2, h3⟩
mutual
theorem zero_lens : ∀ t : Tr, ordB t = true → refB t = false → (0 ∈ lens t ↔ emptB t = true)
  | .nil, _, _ => by simp [lens, emptB]
  | .node op set subs mn mx, ho, hr => by
    have ho' : okRep op mn mx = true ∧ ordBL subs = true := by simpa [ordB] using ho
    by_cases e1 : op = 1
    · subst e1; simp [lens, emptB]
    by_cases e2 : op = 2
    · subst e2
      have := zero_lensC [0] 0 (upto_zero 0) subs ho'.2 (by simpa [refB] using hr)
      simpa [lens, emptB] using this
    by_cases e3 : op = 3 ∨ op = 10
    · have h := zero_lensA subs ho'.2 (by rcases e3 with rfl | rfl <;> simpa [refB] using hr)
      simp only [lens, emptB, if_neg e1, if_neg e2, if_pos e3]
      rw [(uniq_spec _).2.1]; exact h
    by_cases e4 : op = 4
    · subst e4
      have hm : ¬ mx < 0 := by
        intro h; simp [refB, h] at hr
      have h := zero_lensH subs ho'.2 (by simpa [refB, hm] using hr)
      have hk : 0 ≤ mn ∧ mn ≤ mx := by
        have := ho'.1
        simp [okRep] at this
        omega
      simp only [lens, emptB, if_neg e1, if_neg e2, if_neg e3, if_pos, if_neg hm]
      rw [(uniq_spec _).2.1, mem_repAll, Bool.or_eq_true, decide_eq_true_eq, ← h]
      constructor
      · rintro ⟨k, h1, h2, h3⟩
        rcases (zero_kfold (lensH_ok subs).2 k).1 h3 with h0 | h0
        · exact .inr (by omega)
        · exact .inl h0
      · rintro (h0 | h0)
        · exact ⟨mn.toNat, by omega, by omega, (zero_kfold (lensH_ok subs).2 _).2 (.inr h0)⟩
        · exact ⟨0, by omega, by omega, (zero_kfold (lensH_ok subs).2 _).2 (.inl rfl)⟩
    by_cases e5 : op = 5 ∨ op = 9
    · have h := zero_lensH subs ho'.2 (by rcases e5 with rfl | rfl <;> simpa [refB] using hr)
      simpa only [lens, emptB, if_neg e1, if_neg e2, if_neg e3, if_neg e4, if_pos e5] using h
    · by_cases e6 : op = 6
      · subst e6; simp [refB] at hr
      · simp [lens, emptB, e1, e2, e3, e4, e5, e6]
theorem zero_lensC (acc : List Int) (p : Nat) (h : Upto p acc) : ∀ ts : List Tr, ordBL ts = true → refL ts = false → (0 ∈ lensC acc ts ↔ 0 ∈ acc ∧ emptL ts = true)
  | [], _, _ => by simp [lensC, emptL]
  | t :: ts, ho, hr => by
    have ho' : ordB t = true ∧ ordBL ts = true := by simpa [ordBL] using ho
    have hr' : refB t = false ∧ refL ts = false := by simpa [refL] using hr
    simp only [lensC, emptL, Bool.and_eq_true]
    rw [zero_lensC (sumL acc (lens t)) (p + raw t) (upto_sumL h (lens_ok t).2) ts ho'.2 hr'.2, zero_sumL h (lens_ok t).2, zero_lens t ho'.1 hr'.1, and_assoc]
theorem zero_lensA : ∀ ts : List Tr, ordBL ts = true → refL ts = false → (0 ∈ lensA ts ↔ emptA ts = true)
  | [], _, _ => by simp [lensA, emptA]
  | t :: ts, ho, hr => by
    have ho' : ordB t = true ∧ ordBL ts = true := by simpa [ordBL] using ho
    have hr' : refB t = false ∧ refL ts = false := by simpa [refL] using hr
    simp only [lensA, emptA, Bool.or_eq_true, List.mem_append]
    rw [zero_lens t ho'.1 hr'.1, zero_lensA ts ho'.2 hr'.2]
theorem zero_lensH : ∀ ts : List Tr, ordBL ts = true → refH ts = false → (0 ∈ lensH ts ↔ emptH ts = true)
  | [], _, _ => by simp [lensH, emptH]
  | t :: ts, ho, hr => by
    have ho' : ordB t = true ∧ ordBL ts = true := by simpa [ordBL] using ho
    simp only [lensH, emptH]
    exact zero_lens t ho'.1 (by simpa [refH] using hr)
end
end Go.Proofs.Qxb6605195a
