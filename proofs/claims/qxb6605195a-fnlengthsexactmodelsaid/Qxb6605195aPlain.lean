/-
  The plain laws of sets of characters: runs in canonical form, the merge of newSet, the sweep of coverage. No Go in sight.
-/
namespace Go.Proofs.Qxb6605195a.Plain

/-- c is covered by one of the ranges -/
def InR (rs : List (Int × Int)) (c : Int) : Prop := ∃ r ∈ rs, r.1 ≤ c ∧ c ≤ r.2
theorem inR_nil (c : Int) : ¬ InR [] c := by rintro ⟨r, h, _⟩; cases h
theorem inR_cons (r : Int × Int) (rs : List (Int × Int)) (c : Int) : InR (r :: rs) c ↔ (r.1 ≤ c ∧ c ≤ r.2) ∨ InR rs c := by
  simp only [InR, List.mem_cons]
  constructor
  · rintro ⟨x, rfl | h, hx⟩
    · exact .inl hx
    · exact .inr ⟨x, h, hx⟩
  · rintro (h | ⟨x, h, hx⟩)
    · exact ⟨r, .inl rfl, h⟩
    · exact ⟨x, .inr h, hx⟩
theorem inR_append (a b : List (Int × Int)) (c : Int) : InR (a ++ b) c ↔ InR a c ∨ InR b c := by
  induction a with
  | nil => simp [inR_nil]
  | cons x r ih => rw [List.cons_append, inR_cons, inR_cons, ih, or_assoc]
theorem inR_perm {a b : List (Int × Int)} (h : a.Perm b) (c : Int) : InR a c ↔ InR b c := by
  simp only [InR]
  constructor
  · rintro ⟨r, hr, hc⟩; exact ⟨r, h.mem_iff.mp hr, hc⟩
  · rintro ⟨r, hr, hc⟩; exact ⟨r, h.mem_iff.mpr hr, hc⟩

/-- runs in order, none empty, none touching the next -/
def Canon (l : List (Int × Int)) : Prop := l.Pairwise (fun a b => a.2 + 1 < b.1) ∧ ∀ r ∈ l, r.1 ≤ r.2

theorem canon_nil : Canon [] := ⟨List.Pairwise.nil, by simp⟩
theorem canon_tail {r : Int × Int} {l : List (Int × Int)} (h : Canon (r :: l)) : Canon l := ⟨(List.pairwise_cons.mp h.1).2, fun x hx => h.2 x (by simp [hx])⟩
theorem canon_later {r : Int × Int} {l : List (Int × Int)} (h : Canon (r :: l)) {c : Int} (hc : InR l c) : r.2 + 1 < c := by
  obtain ⟨x, hx, h1, _⟩ := hc
  have := (List.pairwise_cons.mp h.1).1 x hx
  omega

theorem canon_unique : ∀ (a b : List (Int × Int)), Canon a → Canon b → (∀ c, InR a c ↔ InR b c) → a = b
  | [], [], _, _, _ => rfl
  | [], y :: b, _, hb, h => by
    have := hb.2 y (by simp)
    exact absurd ((h y.1).mpr ((inR_cons _ _ _).mpr (.inl ⟨Int.le_refl _, this⟩))) (inR_nil _)
  | x :: a, [], ha, _, h => by
    have := ha.2 x (by simp)
    exact absurd ((h x.1).mp ((inR_cons _ _ _).mpr (.inl ⟨Int.le_refl _, this⟩))) (inR_nil _)
  | x :: a, y :: b, ha, hb, h => by
    have hx := ha.2 x (by simp)
    have hy := hb.2 y (by simp)
    have e1 : x.1 = y.1 := by
      have h1 := (h x.1).mp ((inR_cons _ _ _).mpr (.inl ⟨Int.le_refl _, hx⟩))
      have h2 := (h y.1).mpr ((inR_cons _ _ _).mpr (.inl ⟨Int.le_refl _, hy⟩))
      rw [inR_cons] at h1 h2
      rcases h1 with h1 | h1
      · rcases h2 with h2 | h2
        · omega
        · have := canon_later ha h2; omega
      · rcases h2 with h2 | h2
        · have := canon_later hb h1; omega
        · have := canon_later hb h1; have := canon_later ha h2; omega
    have e2 : x.2 = y.2 := by
      rcases Int.lt_trichotomy x.2 y.2 with h1 | h1 | h1
      · have h2 := (h (x.2 + 1)).mpr ((inR_cons _ _ _).mpr (.inl ⟨by omega, by omega⟩))
        rw [inR_cons] at h2
        rcases h2 with h2 | h2
        · omega
        · have := canon_later ha h2; omega
      · exact h1
      · have h2 := (h (y.2 + 1)).mp ((inR_cons _ _ _).mpr (.inl ⟨by omega, by omega⟩))
        rw [inR_cons] at h2
        rcases h2 with h2 | h2
        · omega
        · have := canon_later hb h2; omega
    have e : x = y := Prod.ext e1 e2
    subst e
    congr 1
    refine canon_unique a b (canon_tail ha) (canon_tail hb) fun c => ?_
    constructor
    · intro hc
      have h1 := canon_later ha hc
      have h2 := (h c).mp ((inR_cons _ _ _).mpr (.inr hc))
      rw [inR_cons] at h2
      rcases h2 with h2 | h2
      · omega
      · exact h2
    · intro hc
      have h1 := canon_later hb hc
      have h2 := (h c).mpr ((inR_cons _ _ _).mpr (.inr hc))
      rw [inR_cons] at h2
      rcases h2 with h2 | h2
      · omega
      · exact h2

/-! ### newSet's merge: the list so far is kept with its last run apart -/
/-- the merged list: all runs before the last, and the last, if there is one -/
def mlist (pre : List (Int × Int)) (last : Option (Int × Int)) : List (Int × Int) := pre ++ last.toList

def mstep (st : List (Int × Int) × Option (Int × Int)) (r : Int × Int) : List (Int × Int) × Option (Int × Int) :=
  if r.2 < r.1 then st
  else match st.2 with
    | none => (st.1, some r)
    | some l => if r.1 ≤ l.2 + 1 then (st.1, some (l.1, max l.2 r.2)) else (st.1 ++ [l], some r)

/-- what holds of the runs merged so far, the ranges still to come starting no earlier than the last run -/
structure MInv (done : List (Int × Int)) (st : List (Int × Int) × Option (Int × Int)) : Prop where
  canon : Canon (mlist st.1 st.2)
  covers : ∀ c, InR (mlist st.1 st.2) c ↔ InR done c
  none : st.2 = none → st.1 = []
  start : ∀ l, st.2 = some l → ∃ r ∈ done, l.1 = r.1

theorem canon_snoc {l : List (Int × Int)} {r : Int × Int} (h : Canon l) (hr : r.1 ≤ r.2) (hl : ∀ x ∈ l, x.2 + 1 < r.1) : Canon (l ++ [r]) := by
  refine ⟨List.pairwise_append.mpr ⟨h.1, List.pairwise_singleton _ _, fun a ha b hb => ?_⟩, fun x hx => ?_⟩
  · simp at hb; subst hb; exact hl a ha
  · simp at hx; rcases hx with hx | rfl
    · exact h.2 x hx
    · exact hr
theorem canon_pre {l : List (Int × Int)} {r : Int × Int} (h : Canon (l ++ [r])) : Canon l ∧ r.1 ≤ r.2 ∧ ∀ x ∈ l, x.2 + 1 < r.1 :=
  ⟨⟨(List.pairwise_append.mp h.1).1, fun x hx => h.2 x (by simp [hx])⟩, h.2 r (by simp), fun x hx => (List.pairwise_append.mp h.1).2.2 x hx r (by simp)⟩

theorem minv_start : MInv [] ([], none) := ⟨canon_nil, fun c => Iff.rfl, fun _ => rfl, by simp⟩

theorem minv_step {done : List (Int × Int)} {st : List (Int × Int) × Option (Int × Int)} {r : Int × Int} (h : MInv done st) (hs : ∀ x ∈ done, x.1 ≤ r.1) : MInv (done ++ [r]) (mstep st r) := by
  obtain ⟨pre, last⟩ := st
  unfold mstep
  by_cases hr : r.2 < r.1
  · rw [if_pos hr]
    refine ⟨h.canon, fun c => ?_, h.none, fun l hl => ?_⟩
    · rw [h.covers, inR_append, inR_cons]
      constructor
      · exact .inl
      · rintro (h1 | h1 | h1)
        · exact h1
        · omega
        · exact absurd h1 (inR_nil _)
    · obtain ⟨x, hx, e⟩ := h.start l hl
      exact ⟨x, by simp [hx], e⟩
  · rw [if_neg hr]
    cases last with
    | none =>
      have hp : pre = [] := h.none rfl
      subst hp
      refine ⟨⟨List.pairwise_singleton _ _, by simp [mlist]; omega⟩, fun c => ?_, by simp, fun l hl => ?_⟩
      · have := h.covers c
        simp only [mlist, Option.toList, List.append_nil, List.nil_append] at this ⊢
        rw [inR_append, ← this]
        constructor
        · exact .inr
        · rintro (h1 | h1)
          · exact absurd h1 (inR_nil _)
          · exact h1
      · simp at hl; subst hl; exact ⟨r, by simp, rfl⟩
    | some l =>
      have hc : Canon (pre ++ [l]) := by simpa [mlist] using h.canon
      obtain ⟨c1, c2, c3⟩ := canon_pre hc
      obtain ⟨x, hx, ex⟩ := h.start l rfl
      have hlr : l.1 ≤ r.1 := by rw [ex]; exact hs x hx
      have hcov : ∀ c, InR pre c ∨ (l.1 ≤ c ∧ c ≤ l.2) ↔ InR done c := by
        intro c
        rw [← h.covers c]
        simp only [mlist, Option.toList]
        rw [inR_append, inR_cons]
        constructor
        · rintro (h1 | h1)
          · exact .inl h1
          · exact .inr (.inl h1)
        · rintro (h1 | h1 | h1)
          · exact .inl h1
          · exact .inr h1
          · exact absurd h1 (inR_nil _)
      by_cases ht : r.1 ≤ l.2 + 1
      · simp only [if_pos ht]
        refine ⟨canon_snoc c1 (by simp; omega) (fun y hy => c3 y hy), fun c => ?_, by simp, fun m hm => ?_⟩
        · simp only [mlist, Option.toList]
          rw [inR_append, inR_append, inR_cons, inR_cons, ← hcov]
          simp only [inR_nil, or_false]
          constructor
          · rintro (h1 | h1)
            · exact .inl (.inl h1)
            · by_cases hcl : c ≤ l.2
              · exact .inl (.inr ⟨h1.1, hcl⟩)
              · exact .inr (by omega)
          · rintro ((h1 | h1) | h1)
            · exact .inl h1
            · exact .inr (by omega)
            · exact .inr (by omega)
        · simp at hm; subst hm; exact ⟨x, by simp [hx], ex⟩
      · simp only [if_neg ht]
        refine ⟨?_, fun c => ?_, by simp, fun m hm => ?_⟩
        · simp only [mlist, Option.toList]
          refine canon_snoc hc (by omega) fun y hy => ?_
          simp at hy
          rcases hy with hy | rfl
          · have := c3 y hy; omega
          · omega
        · simp only [mlist, Option.toList]
          rw [inR_append, inR_append, inR_append, inR_cons, inR_cons, ← hcov]
          simp only [inR_nil, or_false]
        · simp at hm; subst hm; exact ⟨r, by simp, rfl⟩

end Go.Proofs.Qxb6605195a.Plain
