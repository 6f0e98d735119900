import Derived.Test.Qxb6605195aUnionMain
namespace Go.Proofs.Qxb6605195a
open Go.ChangeShapes Go.WideShapes Go.ChangeAt Go.RowKit Plain
set_option linter.unusedVariables false
set_option maxRecDepth 100000

/-! ### the tree as plain data -/
inductive Tr where
  | nil
  | node (op : Int) (set : List (Int × Int)) (subs : List Tr) (mn mx : Int)

mutual
/-- what 'walk' has seen to when it answers ok -/
def good (fl : Bool) : Tr → Prop
  | .nil => False
  | .node op set subs mn mx => Dom set ∧ set.length ≤ 131072 ∧ subs.length ≤ 131072 ∧ ((op = 5 ∨ op = 9) → subs ≠ []) ∧ (op = 4 → subs = [] → fl = true ∧ mx < 0) ∧ (fl = true → op = 4 → mx ≤ 65536) ∧ goodL fl subs
def goodL (fl : Bool) : List Tr → Prop
  | [] => True
  | t :: ts => good fl t ∧ goodL fl ts
end
mutual
def rng : Tr → Nat
  | .nil => 0
  | .node _ set subs _ _ => set.length + rngL subs
def rngL : List Tr → Nat
  | [] => 0
  | t :: ts => rng t + rngL ts
end
mutual
def refB : Tr → Bool
  | .nil => false
  | .node op _ subs _ mx => if op = 6 then true else if op = 4 then (if mx < 0 then true else refH subs) else if op = 2 ∨ op = 3 ∨ op = 10 then refL subs else if op = 5 ∨ op = 9 then refH subs else false
def refL : List Tr → Bool
  | [] => false
  | t :: ts => refB t || refL ts
def refH : List Tr → Bool
  | [] => false
  | t :: _ => refB t
end
mutual
/-- every repeat with Max >= 0 has 0 <= Min <= Max -/
def ordT : Tr → Prop
  | .nil => False
  | .node op _ subs mn mx => (op = 4 → 0 ≤ mx → 0 ≤ mn ∧ mn ≤ mx) ∧ ordL subs
def ordL : List Tr → Prop
  | [] => True
  | t :: ts => ordT t ∧ ordL ts
end

/-- the part number i -/
def kid (ts : List Tr) (i : Nat) : Tr := ts.getD i .nil
theorem kid_zero (t : Tr) (ts : List Tr) : kid (t :: ts) 0 = t := rfl
theorem kid_succ (t : Tr) (ts : List Tr) (i : Nat) : kid (t :: ts) (i + 1) = kid ts i := by simp [kid]
theorem goodL_get {fl : Bool} : ∀ {ts : List Tr}, goodL fl ts → ∀ i, i < ts.length → good fl (kid ts i)
  | [], _, i, hi => absurd hi (by simp)
  | t :: ts, h, 0, _ => by rw [kid_zero]; unfold goodL at h; exact h.1
  | t :: ts, h, i + 1, hi => by
    unfold goodL at h
    rw [kid_succ]
    exact goodL_get h.2 i (by simpa using hi)
theorem drop_kid : ∀ {ts : List Tr} {k : Nat}, k < ts.length → ts.drop k = kid ts k :: ts.drop (k + 1)
  | [], k, h => absurd h (by simp)
  | t :: ts, 0, h => by simp [kid_zero]
  | t :: ts, k + 1, h => by rw [kid_succ]; simpa using drop_kid (ts := ts) (k := k) (by simpa using h)

/-! ### the tree in memory -/
inductive TreeAt (w : World) : Option Addr → Tr → Prop
  | nil : TreeAt w none .nil
  | node (b off : Nat) (op mn mx : Int) (set : List (Int × Int)) (sa : Option Addr) (sc : Nat) (subs : List Tr) (ua : Option Addr) (uc : Nat) (ps : Nat → Option Addr)
      (h0 : w.cell? ⟨b, off, none⟩ = some (.int .u8 op))
      (h1 : w.cell? ⟨b, off + 1, none⟩ = some (.slice sa set.length sc)) (g : Got w sa set sc)
      (h2 : w.cell? ⟨b, off + 2, none⟩ = some (.slice ua subs.length uc)) (hn : ua = none → subs = [] ∧ uc = 0)
      (h3 : w.cell? ⟨b, off + 3, none⟩ = some (.int .i64 mn)) (h4 : w.cell? ⟨b, off + 4, none⟩ = some (.int .i64 mx))
      (b0 : 0 ≤ op ∧ op ≤ 255) (b1 : set.length ≤ 9223372036854775807) (b2 : subs.length ≤ 9223372036854775807) (b3 : -9223372036854775808 ≤ mn ∧ mn ≤ 9223372036854775807) (b4 : -9223372036854775808 ≤ mx ∧ mx ≤ 9223372036854775807)
      (hp : 0 < subs.length → ∃ ub uo, ua = some ⟨ub, uo, none⟩ ∧ ∀ i, i < subs.length → w.cell? ⟨ub, uo + i, none⟩ = some (.pointer (ps i)))
      (hs : ∀ i, i < subs.length → TreeAt w (ps i) (kid subs i)) : TreeAt w (some ⟨b, off, none⟩) (.node op set subs mn mx)
theorem TreeAt.bel {w w' : World} (hb : Below w.heap.size w w') {a : Option Addr} {t : Tr} (h : TreeAt w a t) : TreeAt w' a t := by
  induction h with
  | nil => exact .nil
  | node b off op mn mx set sa sc subs ua uc ps h0 h1 g h2 hn h3 h4 b0 b1 b2 b3 b4 hp hs ih =>
    refine .node b off op mn mx set sa sc subs ua uc ps ?_ ?_ (g.below hb) ?_ hn ?_ ?_ b0 b1 b2 b3 b4 ?_ ih
    · rw [hb.cell (cell_lt' h0)]; exact h0
    · rw [hb.cell (cell_lt' h1)]; exact h1
    · rw [hb.cell (cell_lt' h2)]; exact h2
    · rw [hb.cell (cell_lt' h3)]; exact h3
    · rw [hb.cell (cell_lt' h4)]; exact h4
    · intro h
      obtain ⟨ub, uo, e, hc⟩ := hp h
      exact ⟨ub, uo, e, fun i hi => by rw [hb.cell (cell_lt' (hc i hi))]; exact hc i hi⟩

/-! ### refuses -/
theorem refL_drop {ts : List Tr} {k : Nat} (h : k < ts.length) : refL (ts.drop k) = (refB (kid ts k) || refL (ts.drop (k + 1))) := by
  rw [drop_kid h]; rfl

set_option maxHeartbeats 1000000 in
theorem refuses_any {w0 : World} {a : Option Addr} {t : Tr} (h : TreeAt w0 a t) : ∀ w, Hid (Below w0.heap.size w0 w) → Hid (good true t) →
    Calls Try.prog 20 #[.pointer a] w fun e w' => e = .returned (.bool (refB t)) ∧ Hid (Below w.heap.size w w') := by
  induction h with
  | nil => intro w _ hg; exact absurd hg.out (by unfold good; exact id)
  | node b off op mn mx set sa sc subs ua uc ps h0 h1 g h2 hn h3 h4 b0 b1 b2 b3 b4 hp hs ih =>
    intro w HB hg
    have hg' := hg.out
    unfold good at hg'
    obtain ⟨_, _, hl, g5, g4, g4', gl⟩ := hg'
    have HG := hid (goodL_get gl)
    have HP := hid hp
    have HI := hid ih
    have k0 : w.cell? ⟨b, off, none⟩ = some (.int .u8 op) := by rw [HB.out.cell (cell_lt' h0)]; exact h0
    have k2 : w.cell? ⟨b, off + 2, none⟩ = some (.slice ua subs.length uc) := by rw [HB.out.cell (cell_lt' h2)]; exact h2
    have k4 : w.cell? ⟨b, off + 4, none⟩ = some (.int .i64 mx) := by rw [HB.out.cell (cell_lt' h4)]; exact h4
    clear hp hs ih h0 h1 h2 h3 h4 gl g hn
    by_cases e6 : op = 6
    · subst e6
      go_enter Try.func20, Try.ntmps20
      go_wp2_with fail
      go_ret
      exact ⟨by simp [refB], Below.refl _ _⟩
    by_cases e4 : op = 4
    · subst e4
      by_cases m0 : mx < 0
      · go_enter Try.func20, Try.ntmps20
        go_wp2_with fail
        go_ret
        exact ⟨by simp [refB, m0], Below.refl _ _⟩
      · have hne : 0 < subs.length := by
          rcases Nat.eq_zero_or_pos subs.length with h | h
          · exact absurd (g4 rfl (List.length_eq_zero_iff.1 h)).2 m0
          · exact h
        obtain ⟨ub, uo, rfl, hc⟩ := HP.out hne
        have c0 : w.cell? ⟨ub, uo, none⟩ = some (.pointer (ps 0)) := by
          have := hc 0 hne
          rw [HB.out.cell (p := ⟨ub, uo, none⟩) (cell_lt' this)]; exact this
        clear hc
        have HR := hid (show refB (.node 4 set subs mn mx) = refB (kid subs 0) by
          obtain ⟨t, ts, rfl⟩ := List.exists_cons_of_length_pos hne
          rw [kid_zero]; simp [refB, refH, m0])
        rw [HR.out]
        go_enter Try.func20, Try.ntmps20
        go_wp2_with fail
        refine (HI.out 0 hne w HB (HG.out 0 hne)).mono ?_
        rintro e w1 ⟨rfl, B1⟩
        go_wp2_with fail
        go_ret
        exact ⟨rfl, B1⟩
    by_cases e2 : op = 2 ∨ op = 3 ∨ op = 10
    · have HR := hid (show refB (.node op set subs mn mx) = refL subs by simp [refB, e6, e4, e2])
      rcases e2 with rfl | rfl | rfl
      all_goals
        go_enter Try.func20, Try.ntmps20
        go_wp2_with fail
        go_loopw [34] (fun i wr => ∃ k : Nat, k ≤ subs.length ∧ i = .int .i64 k ∧ Hid (Below w.heap.size w wr) ∧ Hid (refL subs = refL (subs.drop k))) (fun i _ => subs.length - (intOf i).toNat)
        case atStart => exact ⟨0, Nat.zero_le _, rfl, Below.refl _ _, rfl⟩
        case round =>
          obtain ⟨k, hk, rfl, HB1, HD⟩ := hrel
          by_cases hlt : k < subs.length
          · obtain ⟨ub, uo, rfl, hc⟩ := HP.out (by omega)
            have c0 : wr.cell? ⟨ub, uo + k, none⟩ = some (.pointer (ps k)) := by
              have := hc k hlt
              rw [(HB.out.trans (HB1.out.mono HB.out.size)).cell (p := ⟨ub, uo + k, none⟩) (cell_lt' this)]; exact this
            have HE := hid (HD.out.trans (refL_drop hlt))
            clear hc HD
            go_wp2_with fail
            refine (HI.out k hlt wr (HB.out.trans (HB1.out.mono HB.out.size)) (HG.out k hlt)).mono ?_
            rintro e w1 ⟨rfl, B1⟩
            have HB2 := hid (below_next HB1.out B1.out)
            obtain ⟨rk, hrk⟩ : ∃ r, r = refB (kid subs k) := ⟨_, rfl⟩
            rw [← hrk]
            cases rk
            · have HN := hid (show refL subs = refL (subs.drop (k + 1)) by rw [HE.out, ← hrk]; rfl)
              clear HE hrk
              go_wp2_with fail
              go_roundw
              case rel => exact ⟨k + 1, hlt, by go_num, HB2, HN⟩
              case measure => simp [intOf]; omega
            · have HN := hid (show true = refB (.node _ set subs mn mx) by rw [HR.out, HE.out, ← hrk]; rfl)
              clear HE hrk
              go_wp2_with fail
              go_ret
              exact ⟨ret_bool HN.out, HB2⟩
          · have HN := hid (show false = refB (.node _ set subs mn mx) by rw [HR.out, HD.out, List.drop_of_length_le (by omega)]; rfl)
            clear HD
            go_wp2_with fail
            go_ret
            exact ⟨ret_bool HN.out, HB1⟩
    by_cases e5 : op = 5 ∨ op = 9
    · have hne : 0 < subs.length := by
        rcases Nat.eq_zero_or_pos subs.length with h | h
        · exact absurd (List.length_eq_zero_iff.1 h) (g5 e5)
        · exact h
      obtain ⟨ub, uo, rfl, hc⟩ := HP.out hne
      have c0 : w.cell? ⟨ub, uo, none⟩ = some (.pointer (ps 0)) := by
        have := hc 0 hne
        rw [HB.out.cell (p := ⟨ub, uo, none⟩) (cell_lt' this)]; exact this
      clear hc
      have HR := hid (show refB (.node op set subs mn mx) = refB (kid subs 0) by
        obtain ⟨t, ts, rfl⟩ := List.exists_cons_of_length_pos hne
        rw [kid_zero]; simp [refB, refH, e6, e4, e2, e5])
      rw [HR.out]
      rcases e5 with rfl | rfl
      all_goals
        go_enter Try.func20, Try.ntmps20
        go_wp2_with fail
        refine (HI.out 0 hne w HB (HG.out 0 hne)).mono ?_
        rintro e w1 ⟨rfl, B1⟩
        go_wp2_with fail
        go_ret
        exact ⟨rfl, B1⟩
    · have HR := hid (show refB (.node op set subs mn mx) = false by simp [refB, e6, e4, e2, e5])
      rw [HR.out]
      simp only [not_or] at e2 e5
      obtain ⟨e2, e3, e10⟩ := e2
      obtain ⟨e5, e9⟩ := e5
      go_enter Try.func20, Try.ntmps20
      go_wp2_with fail
      go_ret
      exact ⟨rfl, Below.refl _ _⟩
end Go.Proofs.Qxb6605195a
