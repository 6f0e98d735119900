import Derived.Test.Qxb6605195aPlain
namespace Go.Proofs.Qxb6605195a.Plain

/-- the sum of the deltas at places up to c -/
def cnt : List (Int × Int) → Int → Int
  | [], _ => 0
  | e :: r, c => (if e.1 ≤ c then e.2 else 0) + cnt r c
def tot : List (Int × Int) → Int
  | [] => 0
  | e :: r => e.2 + tot r
/-- the events of the ranges -/
def evs : List (Int × Int) → List (Int × Int)
  | [] => []
  | r :: rs => if r.1 ≤ r.2 then (r.1, 1) :: (r.2 + 1, -1) :: evs rs else evs rs
/-- how many ranges cover c -/
def ncov : List (Int × Int) → Int → Int
  | [], _ => 0
  | r :: rs, c => (if r.1 ≤ c ∧ c ≤ r.2 then 1 else 0) + ncov rs c

theorem cnt_evs (rs : List (Int × Int)) (c : Int) : cnt (evs rs) c = ncov rs c := by
  induction rs with
  | nil => rfl
  | cons r rs ih =>
    simp only [evs, ncov]
    split
    · simp only [cnt, ih]
      by_cases h1 : r.1 ≤ c
      · by_cases h2 : c ≤ r.2
        · simp only [h1, h2, and_self, if_true, show ¬ (r.2 + 1 ≤ c) from by omega, if_false]; omega
        · simp only [h1, h2, and_false, if_true, show (r.2 + 1 ≤ c) from by omega, if_false]; omega
      · simp only [h1, false_and, if_false, show ¬ (r.2 + 1 ≤ c) from by omega]; omega
    · rw [ih, if_neg (by omega)]; omega
theorem tot_evs (rs : List (Int × Int)) : tot (evs rs) = 0 := by
  induction rs with
  | nil => rfl
  | cons r rs ih =>
    simp only [evs]
    split
    · simp only [tot, ih]; omega
    · exact ih
theorem ncov_nonneg (rs : List (Int × Int)) (c : Int) : 0 ≤ ncov rs c := by
  induction rs with
  | nil => simp [ncov]
  | cons r rs ih => simp only [ncov]; split <;> omega
theorem ncov_pos (rs : List (Int × Int)) (c : Int) : 0 < ncov rs c ↔ InR rs c := by
  induction rs with
  | nil => simp [ncov, inR_nil]
  | cons r rs ih =>
    rw [inR_cons, ← ih]
    have := ncov_nonneg rs c
    simp only [ncov]
    split
    · rename_i h; constructor
      · intro _; exact .inl h
      · intro _; omega
    · rename_i h; constructor
      · intro h1; exact .inr (by omega)
      · rintro (h1 | h1)
        · exact absurd h1 h
        · omega
theorem cnt_append (a b : List (Int × Int)) (c : Int) : cnt (a ++ b) c = cnt a c + cnt b c := by
  induction a with
  | nil => simp [cnt]
  | cons e r ih => simp only [List.cons_append, cnt, ih]; omega
theorem tot_append (a b : List (Int × Int)) : tot (a ++ b) = tot a + tot b := by
  induction a with
  | nil => simp [tot]
  | cons e r ih => simp only [List.cons_append, tot, ih]; omega
theorem cnt_perm {a b : List (Int × Int)} (h : a.Perm b) (c : Int) : cnt a c = cnt b c := by
  induction h with
  | nil => rfl
  | cons x _ ih => simp only [cnt, ih]
  | swap x y l => simp only [cnt]; omega
  | trans _ _ h1 h2 => rw [h1, h2]
theorem tot_perm {a b : List (Int × Int)} (h : a.Perm b) : tot a = tot b := by
  induction h with
  | nil => rfl
  | cons x _ ih => simp only [tot, ih]
  | swap x y l => simp only [tot]; omega
  | trans _ _ h1 h2 => rw [h1, h2]
theorem cnt_le {a : List (Int × Int)} {c : Int} (h : ∀ e ∈ a, e.1 ≤ c) : cnt a c = tot a := by
  induction a with
  | nil => rfl
  | cons e r ih => simp only [cnt, tot]; rw [if_pos (h e (by simp)), ih fun x hx => h x (by simp [hx])]
theorem cnt_gt {a : List (Int × Int)} {c : Int} (h : ∀ e ∈ a, c < e.1) : cnt a c = 0 := by
  induction a with
  | nil => rfl
  | cons e r ih => simp only [cnt]; rw [if_neg (by have := h e (by simp); omega), ih fun x hx => h x (by simp [hx])]; rfl

/-- one place's events taken together -/
def grp (p : Int) : List (Int × Int) → Int → List (Int × Int) × Int
  | [], c => ([], c)
  | e :: r, c => if e.1 = p then grp p r (c + e.2) else (e :: r, c)
def sweep : Nat → List (Int × Int) → Int → Int → List (Int × Int) → List (Int × Int)
  | 0, _, _, _, out => out
  | _ + 1, [], _, _, out => out
  | n + 1, e :: r, count, start, out =>
    sweep n (grp e.1 (e :: r) count).1 (grp e.1 (e :: r) count).2 (if count = 0 ∧ 0 < (grp e.1 (e :: r) count).2 then e.1 else start)
      (if 0 < count ∧ (grp e.1 (e :: r) count).2 = 0 then out ++ [(start, e.1 - 1)] else out)

theorem grp_spec (p : Int) (l : List (Int × Int)) : ∀ c, l.Pairwise (fun a b => a.1 ≤ b.1) → (∀ e ∈ l, p ≤ e.1) →
    ∃ g, l = g ++ (grp p l c).1 ∧ (∀ e ∈ g, e.1 = p) ∧ (∀ e ∈ (grp p l c).1, p < e.1) ∧ (grp p l c).2 = c + tot g := by
  induction l with
  | nil => intro c _ _; exact ⟨[], by simp [grp], by simp, by simp [grp], by simp [grp, tot]⟩
  | cons e r ih =>
    intro c hs hp
    have hs' := List.pairwise_cons.mp hs
    simp only [grp]
    by_cases h : e.1 = p
    · rw [if_pos h]
      obtain ⟨g, h1, h2, h3, h4⟩ := ih (c + e.2) hs'.2 (fun x hx => hp x (by simp [hx]))
      refine ⟨e :: g, ?_, ?_, h3, ?_⟩
      · rw [List.cons_append, ← h1]
      · intro x hx; simp at hx; rcases hx with rfl | hx
        · exact h
        · exact h2 x hx
      · rw [h4]; simp only [tot]; omega
    · rw [if_neg h]
      refine ⟨[], rfl, by simp, ?_, by simp [tot]⟩
      have h1 := hp e (by simp)
      intro x hx; simp at hx; rcases hx with rfl | hx
      · omega
      · have := hs'.1 x hx; omega
theorem grp_len (p : Int) (l : List (Int × Int)) : ∀ c, (grp p l c).1.length ≤ l.length := by
  induction l with
  | nil => intro c; simp [grp]
  | cons e r ih =>
    intro c
    simp only [grp]
    split
    · have := ih (c + e.2); simp only [List.length_cons]; omega
    · simp
theorem grp_head_len (e : Int × Int) (r : List (Int × Int)) (c : Int) : (grp e.1 (e :: r) c).1.length ≤ r.length := by
  simp only [grp, if_true]; exact grp_len _ _ _

/-- what holds at the head of the sweep's loop -/
structure SInv (all done es : List (Int × Int)) (count start lastp : Int) (out : List (Int × Int)) : Prop where
  parts : all = done ++ es
  sorted : es.Pairwise (fun a b => a.1 ≤ b.1)
  before : ∀ e ∈ done, e.1 ≤ lastp
  after : ∀ e ∈ es, lastp < e.1
  total : count = tot done
  nonneg : 0 ≤ count
  covers : ∀ c, (∀ e ∈ es, c < e.1) → (0 < cnt all c ↔ InR out c ∨ (0 < count ∧ start ≤ c))
  canon : Canon out
  ends : ∀ r ∈ out, r.2 + 1 ≤ lastp
  open_ : 0 < count → start ≤ lastp ∧ ∀ r ∈ out, r.2 + 1 < start

theorem sweep_ok (all : List (Int × Int)) (hF : ∀ c, 0 ≤ cnt all c) (hT : tot all = 0) : ∀ (n : Nat) (done es : List (Int × Int)) (count start lastp : Int) (out : List (Int × Int)),
    es.length ≤ n → SInv all done es count start lastp out → Canon (sweep n es count start out) ∧ ∀ c, 0 < cnt all c ↔ InR (sweep n es count start out) c := by
  intro n
  induction n with
  | zero =>
    intro done es count start lastp out hn h
    have : es = [] := List.length_eq_zero_iff.mp (by omega)
    subst this
    have hc : count = 0 := by have := h.parts; simp at this; rw [h.total, ← this]; exact hT
    refine ⟨h.canon, fun c => ?_⟩
    rw [h.covers c (by simp)]
    simp only [sweep]
    constructor
    · rintro (h1 | h1)
      · exact h1
      · omega
    · exact .inl
  | succ n ih =>
    intro done es count start lastp out hn h
    match es, hn, h with
    | [], _, h =>
      have hc : count = 0 := by have := h.parts; simp at this; rw [h.total, ← this]; exact hT
      refine ⟨h.canon, fun c => ?_⟩
      rw [h.covers c (by simp)]
      simp only [sweep]
      constructor
      · rintro (h1 | h1)
        · exact h1
        · omega
      · exact .inl
    | e :: r, hn, h =>
      have hlp := h.after e (by simp)
      have hge : ∀ x ∈ e :: r, e.1 ≤ x.1 := by
        intro x hx; simp at hx; rcases hx with rfl | hx
        · exact Int.le_refl _
        · exact (List.pairwise_cons.mp h.sorted).1 x hx
      obtain ⟨g, g1, g2, g3, g4⟩ := grp_spec e.1 (e :: r) count h.sorted hge
      have glen := grp_head_len e r count
      simp only [List.length_cons] at hn
      simp only [sweep]
      generalize hG : grp e.1 (e :: r) count = G at *
      obtain ⟨es', count'⟩ := G
      simp only at *
      have hdone' : ∀ x ∈ done ++ g, x.1 ≤ e.1 := by
        intro x hx; simp at hx; rcases hx with hx | hx
        · have := h.before x hx; omega
        · have := g2 x hx; omega
      have hparts : all = (done ++ g) ++ es' := by rw [h.parts, List.append_assoc, ← g1]
      have htot : count' = tot (done ++ g) := by rw [tot_append, ← h.total, g4]
      have hat : ∀ c, e.1 ≤ c → (∀ x ∈ es', c < x.1) → cnt all c = count' := by
        intro c h1 h2
        rw [hparts, cnt_append, cnt_gt h2, cnt_le (fun x hx => by have := hdone' x hx; omega), htot]; omega
      have hnn : 0 ≤ count' := by rw [← hat e.1 (Int.le_refl _) g3]; exact hF _
      have hsort : es'.Pairwise (fun a b => a.1 ≤ b.1) := by
        have := h.sorted; rw [g1] at this; exact (List.pairwise_append.mp this).2.1
      have hlow : ∀ c, c < e.1 → (0 < cnt all c ↔ InR out c ∨ (0 < count ∧ start ≤ c)) := fun c hc => h.covers c (fun x hx => by have := hge x hx; omega)
      have hout : ∀ c, e.1 ≤ c → ¬ InR out c := by
        rintro c hc ⟨x, hx, _, h2⟩
        have := h.ends x hx; omega
      refine ih (done ++ g) es' count' _ e.1 _ (by omega) ⟨hparts, hsort, hdone', g3, htot, hnn, ?_, ?_, ?_, ?_⟩
      · intro c hc
        by_cases hce : c < e.1
        · rw [hlow c hce]
          by_cases h0 : count = 0
          · rw [if_neg (show ¬ (0 < count ∧ count' = 0) from by omega)]
            by_cases h1 : 0 < count'
            · rw [if_pos ⟨h0, h1⟩]
              constructor
              · rintro (h2 | h2)
                · exact .inl h2
                · omega
              · rintro (h2 | h2)
                · exact .inl h2
                · omega
            · rw [if_neg (by omega)]
              constructor
              · rintro (h2 | h2)
                · exact .inl h2
                · omega
              · rintro (h2 | h2)
                · exact .inl h2
                · omega
          · have hcp : 0 < count := by have := h.nonneg; omega
            rw [if_neg (show ¬ (count = 0 ∧ 0 < count') from by omega)]
            by_cases h1 : count' = 0
            · rw [if_pos ⟨hcp, h1⟩, inR_append, inR_cons]
              simp only [inR_nil, or_false]
              constructor
              · rintro (h2 | h2)
                · exact .inl (.inl h2)
                · exact .inl (.inr (by omega))
              · rintro ((h2 | h2) | h2)
                · exact .inl h2
                · exact .inr (by omega)
                · omega
            · rw [if_neg (by omega)]
              constructor
              · rintro (h2 | h2)
                · exact .inl h2
                · exact .inr (by omega)
              · rintro (h2 | h2)
                · exact .inl h2
                · exact .inr (by omega)
        · have hcge : e.1 ≤ c := by omega
          rw [hat c hcge hc]
          by_cases h0 : count = 0
          · rw [if_neg (show ¬ (0 < count ∧ count' = 0) from by omega)]
            by_cases h1 : 0 < count'
            · rw [if_pos ⟨h0, h1⟩]
              exact ⟨fun _ => .inr ⟨h1, hcge⟩, fun _ => h1⟩
            · rw [if_neg (by omega)]
              constructor
              · intro h2; omega
              · rintro (h2 | h2)
                · exact absurd h2 (hout c hcge)
                · omega
          · have hcp : 0 < count := by have := h.nonneg; omega
            rw [if_neg (show ¬ (count = 0 ∧ 0 < count') from by omega)]
            by_cases h1 : count' = 0
            · rw [if_pos ⟨hcp, h1⟩, inR_append, inR_cons]
              simp only [inR_nil, or_false]
              constructor
              · intro h2; omega
              · rintro ((h2 | h2) | h2)
                · exact absurd h2 (hout c hcge)
                · omega
                · omega
            · rw [if_neg (by omega)]
              have := (h.open_ hcp).1
              exact ⟨fun h2 => .inr ⟨h2, by omega⟩, fun _ => by omega⟩
      · split
        · rename_i hh
          have := h.open_ hh.1
          exact canon_snoc h.canon (by simp; omega) this.2
        · exact h.canon
      · intro x hx
        split at hx
        · rename_i hh
          simp at hx; rcases hx with hx | rfl
          · have := h.ends x hx; omega
          · simp
        · have := h.ends x hx; omega
      · intro hc'
        by_cases h0 : count = 0
        · rw [if_pos ⟨h0, hc'⟩, if_neg (show ¬ (0 < count ∧ count' = 0) from by omega)]
          exact ⟨Int.le_refl _, fun x hx => by have := h.ends x hx; omega⟩
        · have hcp : 0 < count := by have := h.nonneg; omega
          rw [if_neg (show ¬ (count = 0 ∧ 0 < count') from by omega), if_neg (show ¬ (0 < count ∧ count' = 0) from by omega)]
          have := h.open_ hcp
          exact ⟨by omega, this.2⟩

theorem coverage_ok (rs es : List (Int × Int)) (n : Nat) (hp : es.Perm (evs rs)) (hs : es.Pairwise (fun a b => a.1 ≤ b.1)) (hn : es.length ≤ n) :
    Canon (sweep n es 0 0 []) ∧ ∀ c, InR (sweep n es 0 0 []) c ↔ InR rs c := by
  have hF : ∀ c, cnt es c = ncov rs c := fun c => by rw [cnt_perm hp, cnt_evs]
  have h0 : ∃ q : Int, ∀ e ∈ es, q < e.1 := by
    cases es with
    | nil => exact ⟨0, by simp⟩
    | cons e r =>
      refine ⟨e.1 - 1, fun x hx => ?_⟩
      simp at hx; rcases hx with rfl | hx
      · omega
      · have := (List.pairwise_cons.mp hs).1 x hx; omega
  obtain ⟨q, hq⟩ := h0
  have := sweep_ok es (fun c => by rw [hF]; exact ncov_nonneg _ _) (by rw [tot_perm hp, tot_evs]) n [] es 0 0 q [] hn
    ⟨rfl, hs, by simp, hq, rfl, Int.le_refl _, fun c hc => by rw [cnt_gt hc]; simp [inR_nil], canon_nil, by simp, by omega⟩
  exact ⟨this.1, fun c => by rw [← this.2 c, hF, ncov_pos]⟩

end Go.Proofs.Qxb6605195a.Plain
