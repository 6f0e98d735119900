import Derived.Test.Qxb6605195aTree2
import Derived.Test.Qxb6605195aUniq
set_option maxRecDepth 100000
namespace Go.Proofs.Qxb6605195a
set_option linter.unusedVariables false

/-! ### the lengths, plainly -/
theorem inc_unique : ∀ {L L' : List Int}, Inc L → Inc L' → (∀ x, x ∈ L ↔ x ∈ L') → L = L'
  | [], [], _, _, _ => rfl
  | [], b :: L', _, _, h => absurd ((h b).2 (by simp)) (by simp)
  | a :: L, [], _, _, h => absurd ((h a).1 (by simp)) (by simp)
  | a :: L, b :: L', h1, h2, h => by
    unfold Inc at h1 h2
    rw [List.pairwise_cons] at h1 h2
    have hab : a = b := by
      have ha := (h a).1 (by simp)
      have hb := (h b).2 (by simp)
      simp only [List.mem_cons] at ha hb
      rcases ha with ha | ha
      · exact ha
      · rcases hb with hb | hb
        · exact hb.symm
        · have := h2.1 a ha; have := h1.1 b hb; omega
    subst hab
    have hr : ∀ x, x ∈ L ↔ x ∈ L' := by
      intro x
      constructor
      · intro hx
        have := (h x).1 (by simp [hx])
        simp only [List.mem_cons] at this
        rcases this with rfl | h'
        · exact absurd (h1.1 x hx) (by omega)
        · exact h'
      · intro hx
        have := (h x).2 (by simp [hx])
        simp only [List.mem_cons] at this
        rcases this with rfl | h'
        · exact absurd (h2.1 x hx) (by omega)
        · exact h'
    rw [inc_unique h1.2 h2.2 hr]
/-- all within 0 .. p -/
def Upto (p : Nat) (L : List Int) : Prop := ∀ x ∈ L, 0 ≤ x ∧ x ≤ p
theorem inc_len : ∀ {L : List Int} {lo hi : Int}, Inc L → (∀ x ∈ L, lo ≤ x ∧ x ≤ hi) → lo ≤ hi + 1 → (L.length : Int) ≤ hi - lo + 1
  | [], lo, hi, _, _, h => by simp; omega
  | a :: L, lo, hi, h, hb, h0 => by
    unfold Inc at h
    rw [List.pairwise_cons] at h
    have ha := hb a (by simp)
    have := inc_len (L := L) (lo := a + 1) (hi := hi) h.2 (fun x hx => ⟨by have := h.1 x hx; omega, (hb x (by simp [hx])).2⟩) (by omega)
    simp only [List.length_cons]
    omega
theorem upto_len {L : List Int} {p : Nat} (h : Inc L) (hb : Upto p L) : L.length ≤ p + 1 := by
  have := inc_len h (lo := 0) (hi := p) hb (by omega)
  omega
def plusL (X Y : List Int) : List Int := X.flatMap fun x => Y.map fun y => x + y
theorem mem_plusL {X Y : List Int} {z : Int} : z ∈ plusL X Y ↔ ∃ x ∈ X, ∃ y ∈ Y, x + y = z := by simp [plusL]
theorem upto_plusL {X Y : List Int} {p q : Nat} (hx : Upto p X) (hy : Upto q Y) : Upto (p + q) (plusL X Y) := by
  intro z hz
  obtain ⟨x, h1, y, h2, rfl⟩ := mem_plusL.1 hz
  have a := hx x h1
  have b := hy y h2
  omega
theorem upto_uniq {Z : List Int} {p : Nat} (h : Upto p Z) : Upto p (uniq Z) := fun x hx => h x (((uniq_spec Z).2.1 x).1 hx)
theorem upto_mono {Z : List Int} {p q : Nat} (h : Upto p Z) (hpq : p ≤ q) : Upto q Z := fun x hx => by have := h x hx; omega
def sumL (X Y : List Int) : List Int := uniq (plusL X Y)
theorem upto_sumL {X Y : List Int} {p q : Nat} (hx : Upto p X) (hy : Upto q Y) : Upto (p + q) (sumL X Y) := upto_uniq (upto_plusL hx hy)
theorem inc_sumL (X Y : List Int) : Inc (sumL X Y) := (uniq_spec _).1
theorem mem_sumL {X Y : List Int} {z : Int} : z ∈ sumL X Y ↔ ∃ x ∈ X, ∃ y ∈ Y, x + y = z := ((uniq_spec _).2.1 z).trans mem_plusL
def kfold (B : List Int) : Nat → List Int
  | 0 => [0]
  | k + 1 => sumL (kfold B k) B
def repAll (mn : Int) (B : List Int) : Nat → List Int
  | 0 => []
  | n + 1 => repAll mn B n ++ (if mn ≤ (n : Int) then kfold B n else [])
theorem inc_one (a : Int) : Inc [a] := by simp [Inc]
theorem inc_kfold (B : List Int) : ∀ k, Inc (kfold B k)
  | 0 => inc_one 0
  | k + 1 => inc_sumL _ _
theorem upto_kfold {B : List Int} {q : Nat} (h : Upto q B) : ∀ k, Upto (k * q) (kfold B k)
  | 0 => by intro x hx; simp [kfold] at hx; subst hx; omega
  | k + 1 => by
    have := upto_sumL (upto_kfold h k) h
    rw [Nat.succ_mul]; exact this
theorem upto_repAll {mn : Int} {B : List Int} {q m : Nat} (h : Upto q B) : ∀ n, n ≤ m + 1 → Upto (m * q) (repAll mn B n)
  | 0, _ => by intro x hx; simp [repAll] at hx
  | n + 1, hn => by
    intro x hx
    simp only [repAll, List.mem_append] at hx
    rcases hx with hx | hx
    · exact upto_repAll h n (by omega) x hx
    · by_cases hm : mn ≤ (n : Int)
      · rw [if_pos hm] at hx
        exact upto_mono (upto_kfold h n) (Nat.mul_le_mul_right q (by omega)) x hx
      · rw [if_neg hm] at hx; simp at hx
mutual
def lens : Tr → List Int
  | .nil => []
  | .node op _ subs mn mx => if op = 1 then [1] else if op = 2 then lensC [0] subs else if op = 3 ∨ op = 10 then uniq (lensA subs) else if op = 4 then (if mx < 0 then [] else uniq (repAll mn (lensH subs) (mx.toNat + 1))) else if op = 5 ∨ op = 9 then lensH subs else if op = 6 then [] else [0]
def lensC (acc : List Int) : List Tr → List Int
  | [] => acc
  | t :: ts => lensC (sumL acc (lens t)) ts
def lensA : List Tr → List Int
  | [] => []
  | t :: ts => lens t ++ lensA ts
def lensH : List Tr → List Int
  | [] => []
  | t :: _ => lens t
end
theorem upto_nil (p : Nat) : Upto p [] := by intro x hx; simp at hx
theorem upto_zero (p : Nat) : Upto p [0] := by intro x hx; simp at hx; subst hx; omega
mutual
theorem lens_ok : ∀ t : Tr, Inc (lens t) ∧ Upto (raw t) (lens t)
  | .nil => by simp [lens, Inc, upto_nil]
  | .node op set subs mn mx => by
    by_cases e1 : op = 1
    · subst e1; simp [lens, raw, Inc, Upto]
    by_cases e2 : op = 2
    · subst e2
      have := lensC_ok [0] 0 (inc_one 0) (upto_zero 0) subs
      simpa [lens, raw] using this
    by_cases e3 : op = 3 ∨ op = 10
    · have := lensA_ok subs
      simp only [lens, raw, if_neg e1, if_neg e2, if_pos e3]
      exact ⟨(uniq_spec _).1, upto_uniq this⟩
    by_cases e4 : op = 4
    · have := lensH_ok subs
      simp only [lens, raw, if_neg e1, if_neg e2, if_neg e3, if_pos e4]
      by_cases hm : mx < 0
      · simp [hm, Inc, upto_nil]
      · simp only [if_neg hm]
        refine ⟨(uniq_spec _).1, upto_uniq (upto_mono (upto_repAll (m := mx.toNat) this.2 _ (Nat.le_refl _)) (Nat.mul_le_mul_right _ (by omega)))⟩
    by_cases e5 : op = 5 ∨ op = 9
    · have := lensH_ok subs
      simpa only [lens, raw, if_neg e1, if_neg e2, if_neg e3, if_neg e4, if_pos e5] using this
    · simp only [lens, raw, if_neg e1, if_neg e2, if_neg e3, if_neg e4, if_neg e5]
      by_cases e6 : op = 6
      · simp [e6, Inc, upto_nil]
      · simp only [if_neg e6]; exact ⟨inc_one 0, upto_zero _⟩
theorem lensC_ok (acc : List Int) (p : Nat) (h1 : Inc acc) (h2 : Upto p acc) : ∀ ts : List Tr, Inc (lensC acc ts) ∧ Upto (p + rawS ts) (lensC acc ts)
  | [] => by simpa [lensC, rawS] using ⟨h1, h2⟩
  | t :: ts => by
    have := lensC_ok (sumL acc (lens t)) (p + raw t) (inc_sumL _ _) (upto_sumL h2 (lens_ok t).2) ts
    simp only [lensC, rawS]
    rw [← Nat.add_assoc]; exact this
theorem lensA_ok : ∀ ts : List Tr, Upto (rawM ts) (lensA ts)
  | [] => upto_nil _
  | t :: ts => by
    simp only [lensA, rawM]
    intro x hx
    rw [List.mem_append] at hx
    rcases hx with hx | hx
    · exact upto_mono (lens_ok t).2 (Nat.le_max_left _ _) x hx
    · exact upto_mono (lensA_ok ts) (Nat.le_max_right _ _) x hx
theorem lensH_ok : ∀ ts : List Tr, Inc (lensH ts) ∧ Upto (rawH ts) (lensH ts)
  | [] => by simp [lensH, Inc, upto_nil]
  | t :: _ => by simpa only [lensH, rawH] using lens_ok t
end
mutual
/-- no list met on the way is past 256 -/
def fits : Tr → Prop
  | .nil => True
  | .node op _ subs _ mx => if op = 2 then fitsC [0] subs else if op = 3 ∨ op = 10 then fitsA subs else if op = 4 then (0 ≤ mx → fitsH subs ∧ ∀ i, i ≤ mx.toNat + 1 → (kfold (lensH subs) i).length ≤ 256) else if op = 5 ∨ op = 9 then fitsP subs else True
def fitsC (acc : List Int) : List Tr → Prop
  | [] => True
  | t :: ts => fits t ∧ (lens t).length ≤ 256 ∧ (sumL acc (lens t)).length ≤ 256 ∧ fitsC (sumL acc (lens t)) ts
def fitsA : List Tr → Prop
  | [] => True
  | t :: ts => fits t ∧ (lens t).length ≤ 256 ∧ fitsA ts
def fitsH : List Tr → Prop
  | [] => True
  | t :: _ => fits t ∧ (lens t).length ≤ 256
def fitsP : List Tr → Prop
  | [] => True
  | t :: _ => fits t
end
theorem lens_many {t : Tr} (h : 256 < (lens t).length) : 256 ≤ raw t := by
  have := upto_len (lens_ok t).1 (lens_ok t).2
  omega
/-- no length met on the way is past 1 << 30 -/
def small (n : Nat) : Prop := n ≤ 1073741824
theorem small_le {m n : Nat} (h : small n) (hm : m ≤ n) : small m := Nat.le_trans hm h
/-- what 'lengths' answers: nilA: whether the list is nil -/
def LenOf (t : Tr) (nilA ok : Bool) (L : List Int) : Prop :=
  (ok = true → L.length ≤ 256) ∧ (refB t = true → ok = false ∧ nilA = true) ∧
  (refB t = false → small (raw t) → (ok = true → L = lens t) ∧ (ok = false → (nilA = true ∧ 256 ≤ raw t) ∨ (nilA = false ∧ L = lens t ∧ 256 < L.length))) ∧
  (refB t = false → small (raw t) → ok = true ∨ nilA = false → fits t)
theorem lenOf_fail {t : Tr} (h : refB t = false → small (raw t) → 256 ≤ raw t) : LenOf t true false [] :=
  ⟨fun h => (by cases h), fun _ => ⟨rfl, rfl⟩, fun h1 h2 => ⟨fun h => (by cases h), fun _ => .inl ⟨rfl, h h1 h2⟩⟩, fun _ _ h => (by simp at h)⟩
/-- a part that does not answer: its bound is past 255 -/
theorem lenOf_no {t : Tr} {b : Bool} {L : List Int} (h : LenOf t b false L) (hr : refB t = false) (hs : small (raw t)) : 256 ≤ raw t := by
  rcases (h.2.2.1 hr hs).2 rfl with h | ⟨_, h1, h2⟩
  · exact h.2
  · exact lens_many (by rw [← h1]; exact h2)
theorem lenOf_yes {t : Tr} {b : Bool} {L : List Int} (h : LenOf t b true L) : refB t = false ∧ L.length ≤ 256 ∧ (small (raw t) → L = lens t) := by
  have hr : refB t = false := by
    cases hb : refB t with
    | false => rfl
    | true => exact absurd (h.2.1 hb).1 (by simp)
  exact ⟨hr, h.1 rfl, fun hs => (h.2.2.1 hr hs).1 rfl⟩
theorem lenOf_fits {t : Tr} {b : Bool} {L : List Int} (h : LenOf t b true L) (hs : small (raw t)) : fits t := h.2.2.2 (lenOf_yes h).1 hs (.inl rfl)
theorem lenOf_same {t u : Tr} {b ok : Bool} {L : List Int} (h : LenOf u b ok L) (h1 : refB t = refB u) (h2 : raw t = raw u) (h3 : lens t = lens u) (h4 : fits u → fits t) : LenOf t b ok L := by
  unfold LenOf at *; rw [h1, h2, h3]; exact ⟨h.1, h.2.1, h.2.2.1, fun a b c => h4 (h.2.2.2 a b c)⟩
/-- 'unique' at the end: all of Z, where nothing is refused -/
theorem lenOf_uniq {t : Tr} {Z : List Int} {b : Bool} (hr : refB t = false) (hz : small (raw t) → uniq Z = lens t) (hb : b = true → uniq Z = []) (hf : small (raw t) → fits t) : LenOf t b (decide ((uniq Z).length ≤ 256)) (uniq Z) := by
  refine ⟨fun h => (by simpa using h), fun h => (by rw [hr] at h; cases h), fun _ hs => ⟨fun _ => hz hs, fun h => .inr ?_⟩, fun _ hs _ => hf hs⟩
  have h' : 256 < (uniq Z).length := by simpa using h
  refine ⟨?_, hz hs, h'⟩
  cases b with
  | false => rfl
  | true => rw [hb rfl] at h'; simp at h'
end Go.Proofs.Qxb6605195a
