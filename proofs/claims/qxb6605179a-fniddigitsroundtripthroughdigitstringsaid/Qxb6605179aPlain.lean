/-
  The plain laws of 'FnIDDigitsAgreesWithGroupSplit' and 'FnIDDigitsRoundTripThroughDigitString': no Go in sight.
-/
namespace Go.Proofs.Qxb6605179a.Plain

def hexB (c : Int) : Bool := (decide (48 ≤ c) && decide (c ≤ 57)) || (decide (97 ≤ c) && decide (c ≤ 102))
def sep (i : Nat) : Bool := i == 8 || i == 13 || i == 18 || i == 23

def idd : List Int → Nat → Nat → Option Nat
  | [], _, d => some d
  | c :: r, i, d => if sep i = true then (if c = 45 then idd r (i + 1) d else none) else if hexB c = true then idd r (i + 1) (d + 1) else none

def idDig (l : List Int) : Option Nat := if 36 < l.length then none else idd l 0 0

def full (j : Nat) : Nat := if j = 4 then 12 else if j = 0 then 8 else 4

def split : List Int → List Nat → Nat → Option (List Nat)
  | [], L, cur => some (L ++ [cur])
  | c :: r, L, cur => if c = 45 then (if L.length = 4 then none else split r (L ++ [cur]) 0) else if hexB c = true then split r L (cur + 1) else none

def chk : List Nat → Nat → Nat → Option Nat
  | [], _, t => some t
  | [x], j, t => if full j < x then none else some (t + x)
  | x :: y :: r, j, t => if x = full j then chk (y :: r) (j + 1) (t + x) else none

def fin (o : Option (List Nat)) : Option Nat := match o with | none => none | some G => chk G 0 0

def Bad (L : List Nat) (cur : Nat) : Prop := ∀ cur' S, cur ≤ cur' → chk (L ++ cur' :: S) 0 0 = none

theorem hex45 : hexB 45 = false := by decide

theorem bad_none (r : List Int) : ∀ (L : List Nat) (cur : Nat), Bad L cur → fin (split r L cur) = none := by
  induction r with
  | nil => intro L cur h; simpa [split, fin] using h cur [] (Nat.le_refl _)
  | cons c r ih =>
    intro L cur h
    simp only [split]
    split
    · split
      · rfl
      · exact ih _ _ (fun cur' S _ => by simpa using h cur (cur' :: S) (Nat.le_refl _))
    · split
      · exact ih _ _ (fun cur' S hle => h cur' S (by omega))
      · rfl

theorem bad_big (L : List Nat) (cur j : Nat) (hc : full j < cur)
    (hp : ∀ x S, chk (L ++ x :: S) 0 0 = chk (x :: S) j ((L.foldl (· + ·) 0))) : Bad L cur := by
  intro cur' S hle
  rw [hp]
  cases S with
  | nil => simp only [chk]; rw [if_pos (by omega)]
  | cons y r => simp only [chk]; rw [if_neg (by omega)]

theorem bad_small (L : List Nat) (cur j : Nat) (hc : cur < full j)
    (hp : ∀ x S, chk (L ++ x :: S) 0 0 = chk (x :: S) j ((L.foldl (· + ·) 0))) : Bad (L ++ [cur]) 0 := by
  intro cur' S _
  rw [List.append_assoc, List.singleton_append, hp]
  simp only [chk]; rw [if_neg (by omega)]

/-- The five good states: the groups before are whole. -/
structure Good (L : List Nat) (k st sm : Nat) : Prop where
  len : L.length = k
  sum : L.foldl (· + ·) 0 = sm
  pre : ∀ x S, chk (L ++ x :: S) 0 0 = chk (x :: S) k sm
  next : k < 4 → sep (st + full k) = true
  inner : ∀ c, c < full k → sep (st + c) = false
  lim : k = 4 → st + full k = 36
  low : k < 4 → st + full k < 36

theorem good0 : Good [] 0 0 0 := ⟨rfl, rfl, fun _ _ => rfl, by decide, by decide, by decide, by decide⟩
theorem good1 : Good [8] 1 9 8 := ⟨rfl, rfl, fun x S => by simp [chk, full], by decide, by decide, by decide, by decide⟩
theorem good2 : Good [8, 4] 2 14 12 := ⟨rfl, rfl, fun x S => by simp [chk, full], by decide, by decide, by decide, by decide⟩
theorem good3 : Good [8, 4, 4] 3 19 16 := ⟨rfl, rfl, fun x S => by simp [chk, full], by decide, by decide, by decide, by decide⟩
theorem good4 : Good [8, 4, 4, 4] 4 24 20 := ⟨rfl, rfl, fun x S => by simp [chk, full], by decide, by decide, by decide, by decide⟩

theorem good_next {L : List Nat} {k st sm : Nat} (g : Good L k st sm) (hk : k < 4) (hs : (k, L, st, sm) ∈ [(0, [], 0, 0), (1, [8], 9, 8), (2, [8, 4], 14, 12), (3, [8, 4, 4], 19, 16), (4, [8, 4, 4, 4], 24, 20)]) :
    (k + 1, L ++ [full k], st + full k + 1, sm + full k) ∈ [(0, [], 0, 0), (1, [8], 9, 8), (2, [8, 4], 14, 12), (3, [8, 4, 4], 19, 16), (4, [8, 4, 4, 4], 24, 20)] := by
  simp only [List.mem_cons, Prod.mk.injEq, List.not_mem_nil, or_false] at hs ⊢
  rcases hs with ⟨rfl, rfl, rfl, rfl⟩ | ⟨rfl, rfl, rfl, rfl⟩ | ⟨rfl, rfl, rfl, rfl⟩ | ⟨rfl, rfl, rfl, rfl⟩ | ⟨rfl, rfl, rfl, rfl⟩
  · simp [full]
  · simp [full]
  · simp [full]
  · simp [full]
  · omega

theorem good_of {L : List Nat} {k st sm : Nat} (hs : (k, L, st, sm) ∈ [(0, [], 0, 0), (1, [8], 9, 8), (2, [8, 4], 14, 12), (3, [8, 4, 4], 19, 16), (4, [8, 4, 4, 4], 24, 20)]) : Good L k st sm ∧ k ≤ 4 := by
  simp only [List.mem_cons, Prod.mk.injEq, List.not_mem_nil, or_false] at hs
  rcases hs with ⟨rfl, rfl, rfl, rfl⟩ | ⟨rfl, rfl, rfl, rfl⟩ | ⟨rfl, rfl, rfl, rfl⟩ | ⟨rfl, rfl, rfl, rfl⟩ | ⟨rfl, rfl, rfl, rfl⟩
  · exact ⟨good0, by omega⟩
  · exact ⟨good1, by omega⟩
  · exact ⟨good2, by omega⟩
  · exact ⟨good3, by omega⟩
  · exact ⟨good4, by omega⟩

theorem agree (r : List Int) : ∀ (L : List Nat) (k st sm cur : Nat), (k, L, st, sm) ∈ [(0, [], 0, 0), (1, [8], 9, 8), (2, [8, 4], 14, 12), (3, [8, 4, 4], 19, 16), (4, [8, 4, 4, 4], 24, 20)] → cur ≤ full k →
    fin (split r L cur) = (if 36 < st + cur + r.length then none else idd r (st + cur) (sm + cur)) := by
  induction r with
  | nil =>
    intro L k st sm cur hs hc
    obtain ⟨g, hk⟩ := good_of hs
    have h36 : ¬ 36 < st + cur + ([] : List Int).length := by
      simp only [List.length_nil]
      by_cases h4 : k = 4
      · have := g.lim h4; omega
      · have := g.low (by omega); omega
    rw [if_neg h36]
    simp only [split, fin, idd]
    rw [g.pre]; simp only [chk]; rw [if_neg (by omega)]
  | cons c r ih =>
    intro L k st sm cur hs hc
    obtain ⟨g, hk⟩ := good_of hs
    have hl := g.len
    by_cases hfull : cur = full k
    · -- the group is whole: a hyphen must follow
      subst hfull
      by_cases h4 : k = 4
      · have h36 := g.lim h4
        rw [if_pos (by simp only [List.length_cons]; omega)]
        simp only [split]
        by_cases hy : c = 45
        · rw [if_pos hy, if_pos (by omega)]; rfl
        · rw [if_neg hy]
          by_cases hx : hexB c = true
          · rw [if_pos hx]
            exact bad_none _ _ _ (bad_big L _ k (by omega) (by rw [g.sum]; exact g.pre))
          · rw [if_neg hx]; rfl
      · have hsep := g.next (by omega)
        simp only [split, idd]
        rw [if_pos hsep]
        by_cases hy : c = 45
        · rw [if_pos hy, if_neg (by omega), if_pos hy]
          have := ih _ _ _ _ 0 (good_next g (by omega) hs) (Nat.zero_le _)
          rw [this]
          simp only [List.length_cons]
          have e : (36 < st + full k + 1 + 0 + r.length) = (36 < st + full k + (r.length + 1)) := by
            apply propext; omega
          simp only [e, Nat.add_zero]
        · rw [if_neg hy, if_neg hy]
          have : fin (if hexB c = true then split r L (full k + 1) else none) = none := by
            by_cases hx : hexB c = true
            · rw [if_pos hx]
              exact bad_none _ _ _ (bad_big L _ k (by omega) (by rw [g.sum]; exact g.pre))
            · rw [if_neg hx]; rfl
          rw [this]
          split <;> rfl
    · have hlt : cur < full k := by omega
      have hsep := g.inner cur hlt
      simp only [split, idd, hsep, Bool.false_eq_true, if_false]
      by_cases hy : c = 45
      · have hx : ¬ hexB c = true := by rw [hy]; decide
        rw [if_pos hy, if_neg hx]
        have : fin (if L.length = 4 then none else split r (L ++ [cur]) 0) = none := by
          split
          · rfl
          · exact bad_none _ _ _ (bad_small L cur k hlt (by rw [g.sum]; exact g.pre))
        rw [this]
        split <;> rfl
      · rw [if_neg hy]
        by_cases hx : hexB c = true
        · rw [if_pos hx, if_pos hx]
          rw [ih L k st sm (cur + 1) hs (by omega)]
          simp only [List.length_cons]
          have e : (36 < st + (cur + 1) + r.length) = (36 < st + cur + (r.length + 1)) := by
            apply propext; omega
          simp only [e]
          simp only [Nat.add_assoc]
        · rw [if_neg hx, if_neg hx]
          split <;> rfl

theorem law1 (l : List Int) : fin (split l [] 0) = idDig l := by
  have := agree l [] 0 0 0 0 (by simp) (Nat.zero_le _)
  simpa [idDig] using this

/-! ### The second law: strip the hyphens, put them back -/
def strip (l : List Int) : List Int := l.filter (fun c => !(c == 45))
def mark (d : Nat) : Bool := d == 8 || d == 12 || d == 16 || d == 20
def hyph : List Int → Nat → List Int
  | [], _ => []
  | c :: r, d => if mark d = true then 45 :: c :: hyph r (d + 1) else c :: hyph r (d + 1)
def allHex (l : List Int) : Bool := l.all hexB

/-- the place of digit d, ahead of a hyphen that is still to come -/
def posOf (d : Nat) : Nat := d + (if 8 < d then 1 else 0) + (if 12 < d then 1 else 0) + (if 16 < d then 1 else 0) + (if 20 < d then 1 else 0)

theorem sep_mark (d : Nat) : sep (posOf d) = mark d := by
  rw [Bool.eq_iff_iff]
  simp only [sep, mark, posOf, Bool.or_eq_true, beq_iff_eq]
  repeat' split
  all_goals omega
theorem posOf_mark (d : Nat) (h : mark d = true) : posOf (d + 1) = posOf d + 2 ∧ sep (posOf d + 1) = false := by
  have e : posOf (d + 1) = posOf d + 2 := by
    simp only [mark, Bool.or_eq_true, beq_iff_eq] at h
    simp only [posOf]
    repeat' split
    all_goals omega
  refine ⟨e, ?_⟩
  simp only [mark, Bool.or_eq_true, beq_iff_eq] at h
  rcases h with ((rfl | rfl) | rfl) | rfl <;> decide
theorem posOf_plain (d : Nat) (h : mark d = false) : posOf (d + 1) = posOf d + 1 := by
  have h' : ¬ mark d = true := by simp [h]
  simp only [mark, Bool.or_eq_true, beq_iff_eq] at h'
  simp only [posOf]
  repeat' split
  all_goals omega
theorem posOf_le (d : Nat) : d ≤ 32 ↔ posOf d ≤ 36 := by
  simp only [posOf]
  repeat' split
  all_goals omega
theorem hexne (c : Int) (h : hexB c = true) : c ≠ 45 := by
  intro e; rw [e] at h; exact absurd h (by decide)

theorem strip_hyph (h : List Int) : ∀ d, allHex h = true → strip (hyph h d) = h := by
  induction h with
  | nil => intro d _; rfl
  | cons c r ih =>
    intro d hx
    simp only [allHex, List.all_cons, Bool.and_eq_true] at hx
    have hc := hexne c hx.1
    have hr := ih (d + 1) hx.2
    simp only [strip] at hr
    simp only [hyph, strip]
    split <;> simp [hc, hr]

theorem idd_hyph (h : List Int) : ∀ d, allHex h = true → idd (hyph h d) (posOf d) d = some (d + h.length) := by
  induction h with
  | nil => intro d _; rfl
  | cons c r ih =>
    intro d hx
    simp only [allHex, List.all_cons, Bool.and_eq_true] at hx
    simp only [hyph, List.length_cons]
    by_cases hm : mark d = true
    · obtain ⟨e1, e2⟩ := posOf_mark d hm
      rw [if_pos hm]
      simp only [idd, sep_mark, hm, if_true, e2, hx.1, Bool.false_eq_true, if_false]
      have := ih (d + 1) hx.2
      rw [e1] at this
      rw [this]; congr 1; omega
    · have hm' : mark d = false := by simpa using hm
      rw [if_neg hm]
      simp only [idd, sep_mark, hm', Bool.false_eq_true, if_false, hx.1, if_true]
      have := ih (d + 1) hx.2
      rw [posOf_plain d hm'] at this
      rw [this]; congr 1; omega

theorem idd_hyph_dash (h : List Int) : ∀ d, allHex h = true → mark (d + h.length) = true → idd (hyph h d ++ [45]) (posOf d) d = some (d + h.length) := by
  induction h with
  | nil =>
    intro d _ hm
    simp only [List.length_nil, Nat.add_zero] at hm
    simp [hyph, idd, sep_mark, hm]
  | cons c r ih =>
    intro d hx hml
    simp only [allHex, List.all_cons, Bool.and_eq_true] at hx
    simp only [hyph, List.length_cons] at hml ⊢
    have hml' : mark (d + 1 + r.length) = true := by rw [show d + 1 + r.length = d + (r.length + 1) from by omega]; exact hml
    by_cases hm : mark d = true
    · obtain ⟨e1, e2⟩ := posOf_mark d hm
      rw [if_pos hm]
      simp only [List.cons_append, idd, sep_mark, hm, if_true, e2, hx.1, Bool.false_eq_true, if_false]
      have := ih (d + 1) hx.2 hml'
      rw [e1] at this
      rw [this]; congr 1; omega
    · have hm' : mark d = false := by simpa using hm
      rw [if_neg hm]
      simp only [List.cons_append, idd, sep_mark, hm', Bool.false_eq_true, if_false, hx.1, if_true]
      have := ih (d + 1) hx.2 hml'
      rw [posOf_plain d hm'] at this
      rw [this]; congr 1; omega

theorem hyph_len (h : List Int) : ∀ d, (hyph h d).length + posOf d ≤ posOf (d + h.length) + 0 ∨ h = [] := by
  induction h with
  | nil => intro d; exact .inr rfl
  | cons c r ih =>
    intro d
    refine .inl ?_
    have e : d + (c :: r).length = (d + 1) + r.length := by simp only [List.length_cons]; omega
    rw [e]
    simp only [hyph]
    by_cases hm : mark d = true
    · rw [if_pos hm]
      have e1 := (posOf_mark d hm).1
      rcases ih (d + 1) with h1 | h1
      · simp only [List.length_cons]; omega
      · subst h1; simp only [hyph, List.length_cons, List.length_nil, Nat.add_zero]; omega
    · have hm' : mark d = false := by simpa using hm
      rw [if_neg hm]
      have e1 := posOf_plain d hm'
      rcases ih (d + 1) with h1 | h1
      · simp only [List.length_cons]; omega
      · subst h1; simp only [hyph, List.length_cons, List.length_nil, Nat.add_zero]; omega

theorem idd_some (n : Nat) : ∀ (r : List Int), r.length ≤ n → ∀ d m, idd r (posOf d) d = some m →
    allHex (strip r) = true ∧ m = d + (strip r).length ∧ (r = hyph (strip r) d ∨ (mark m = true ∧ r = hyph (strip r) d ++ [45])) := by
  induction n with
  | zero =>
    intro r hr d m h
    have : r = [] := List.length_eq_zero_iff.mp (by omega)
    subst this
    simp only [idd, Option.some.injEq] at h
    exact ⟨rfl, by simp [strip, h], .inl rfl⟩
  | succ n ih =>
    intro r hr d m h
    match r, hr, h with
    | [], _, h =>
      simp only [idd, Option.some.injEq] at h
      exact ⟨rfl, by simp [strip, h], .inl rfl⟩
    | c :: r, hr, h =>
      simp only [List.length_cons] at hr
      simp only [idd, sep_mark] at h
      by_cases hm : mark d = true
      · obtain ⟨e1, e2⟩ := posOf_mark d hm
        rw [if_pos hm] at h
        split at h
        · rename_i hc
          subst hc
          match r, hr, h with
          | [], _, h =>
            simp only [idd, Option.some.injEq] at h
            subst h
            exact ⟨rfl, rfl, .inr ⟨hm, rfl⟩⟩
          | c :: r, hr, h =>
            simp only [List.length_cons] at hr
            simp only [idd, e2, Bool.false_eq_true, if_false] at h
            split at h
            · rename_i hx
              rw [show posOf d + 1 + 1 = posOf (d + 1) from by omega] at h
              obtain ⟨a1, a2, a3⟩ := ih r (by omega) (d + 1) m h
              have hc := hexne c hx
              have es : strip (45 :: c :: r) = c :: strip r := by simp [strip, hc]
              rw [es]
              refine ⟨?_, ?_, ?_⟩
              · simp only [allHex, List.all_cons, hx, Bool.true_and]; exact a1
              · rw [a2]; simp only [List.length_cons]; omega
              · simp only [hyph, hm, if_true]
                rcases a3 with a3 | ⟨a3, a4⟩
                · exact .inl (by rw [← a3])
                · exact .inr ⟨a3, by rw [List.cons_append, List.cons_append, ← a4]⟩
            · cases h
        · cases h
      · have hm' : mark d = false := by simpa using hm
        rw [if_neg hm] at h
        split at h
        · rename_i hx
          rw [← posOf_plain d hm'] at h
          obtain ⟨a1, a2, a3⟩ := ih r (by omega) (d + 1) m h
          have hc := hexne c hx
          have es : strip (c :: r) = c :: strip r := by simp [strip, hc]
          rw [es]
          refine ⟨?_, ?_, ?_⟩
          · simp only [allHex, List.all_cons, hx, Bool.true_and]; exact a1
          · rw [a2]; simp only [List.length_cons]; omega
          · simp only [hyph, hm', Bool.false_eq_true, if_false]
            rcases a3 with a3 | ⟨a3, a4⟩
            · exact .inl (by rw [← a3])
            · exact .inr ⟨a3, by rw [List.cons_append, ← a4]⟩
        · cases h

theorem hyph_grows (h : List Int) : ∀ d, posOf (d + h.length) ≤ (hyph h d).length + posOf d := by
  induction h with
  | nil => intro d; simp [hyph]
  | cons c r ih =>
    intro d
    have e : d + (c :: r).length = (d + 1) + r.length := by simp only [List.length_cons]; omega
    rw [e]
    have h1 := ih (d + 1)
    simp only [hyph]
    by_cases hm : mark d = true
    · rw [if_pos hm]
      have e1 := (posOf_mark d hm).1
      simp only [List.length_cons]; omega
    · have hm' : mark d = false := by simpa using hm
      rw [if_neg hm]
      have e1 := posOf_plain d hm'
      simp only [List.length_cons]; omega

def wantOK (l : List Int) : Bool :=
  (decide ((strip l).length ≤ 32) && allHex (strip l)) && (l == hyph (strip l) 0 || (mark (strip l).length && l == hyph (strip l) 0 ++ [45]))

theorem law2 (l : List Int) : idDig l = if wantOK l = true then some (strip l).length else none := by
  by_cases hw : wantOK l = true
  · rw [if_pos hw]
    simp only [wantOK, Bool.and_eq_true, Bool.or_eq_true, decide_eq_true_eq, beq_iff_eq] at hw
    obtain ⟨⟨h32, hx⟩, he⟩ := hw
    have hlen := hyph_len (strip l) 0
    have hp0 : posOf 0 = 0 := rfl
    have hp := (posOf_le (strip l).length).mp h32
    simp only [Nat.zero_add, hp0, Nat.add_zero] at hlen
    rcases he with he | ⟨hm, he⟩
    · have hl : l.length ≤ 36 := by
        rcases hlen with h | h
        · rw [he]; omega
        · rw [he, h]; simp [hyph]
      rw [idDig, if_neg (by omega)]
      have := idd_hyph (strip l) 0 hx
      rw [← he, hp0, Nat.zero_add] at this
      exact this
    · have hl : l.length ≤ 36 := by
        have h20 : (strip l).length ≤ 20 := by
          simp only [mark, Bool.or_eq_true, beq_iff_eq] at hm; omega
        have hq : posOf (strip l).length ≤ 24 := by
          simp only [posOf]
          repeat' split
          all_goals omega
        rcases hlen with h | h
        · rw [he, List.length_append, List.length_singleton]; omega
        · rw [he, h]; simp [hyph]
      rw [idDig, if_neg (by omega)]
      have := idd_hyph_dash (strip l) 0 hx (by rw [Nat.zero_add]; exact hm)
      rw [← he, hp0, Nat.zero_add] at this
      exact this
  · rw [if_neg hw]
    by_cases h36 : 36 < l.length
    · rw [idDig, if_pos h36]
    · rw [idDig, if_neg h36]
      cases hi : idd l 0 0 with
      | none => rfl
      | some m =>
        exfalso
        apply hw
        obtain ⟨a1, a2, a3⟩ := idd_some l.length l (Nat.le_refl _) 0 m hi
        have h32 : (strip l).length ≤ 32 := by
          have hg := hyph_grows (strip l) 0
          simp only [Nat.zero_add, show posOf 0 = 0 from rfl, Nat.add_zero] at hg
          refine (posOf_le _).mpr ?_
          rcases a3 with a3 | ⟨_, a3⟩
          · rw [a3] at h36; omega
          · rw [a3, List.length_append] at h36; omega
        rw [Nat.zero_add] at a2
        subst a2
        simp only [wantOK, Bool.and_eq_true, Bool.or_eq_true, decide_eq_true_eq, beq_iff_eq]
        exact ⟨⟨h32, a1⟩, a3⟩

end Go.Proofs.Qxb6605179a.Plain
