import Derived.Test.Qxb6605195aTree
import Derived.BigRegion
set_option maxRecDepth 100000
namespace Go.Proofs.Qxb6605195a
open Go.ChangeShapes Go.WideShapes Go.ChangeAt Go.RowKit Plain
set_option linter.unusedVariables false

/-- what 'walk' hands back -/
def RetWalk (fl : Bool) (t : Tr) (e : Ending) : Prop := ∃ v b r s ok, e = .returned (.tuple #[.agg #[.int .i64 v, .int .i64 b, .int .i64 r, .int .i64 s], .bool ok]) ∧ Hid (ok = true → good fl t ∧ r = rng t ∧ 8 * r ≤ b ∧ b ≤ 1048576)
theorem retWalk_no {fl : Bool} {t : Tr} : RetWalk fl t (.returned (.tuple #[.agg #[.int .i64 0, .int .i64 0, .int .i64 0, .int .i64 0], .bool false])) := ⟨0, 0, 0, 0, false, rfl, fun h => by cases h⟩
/-- four ints -/
def Four (w : World) (b : Nat) (x0 x1 x2 x3 : Int) : Prop := w.cell? ⟨b, 0, none⟩ = some (.int .i64 x0) ∧ w.cell? ⟨b, 1, none⟩ = some (.int .i64 x1) ∧ w.cell? ⟨b, 2, none⟩ = some (.int .i64 x2) ∧ w.cell? ⟨b, 3, none⟩ = some (.int .i64 x3) ∧ w.frozen? ⟨b, 0, none⟩ = false ∧ w.frozen? ⟨b, 1, none⟩ = false ∧ w.frozen? ⟨b, 2, none⟩ = false ∧ w.frozen? ⟨b, 3, none⟩ = false

theorem walk_end {W : World} {N : Nat} {tm : Array Value} {ok : Bool} {x0 x1 x2 x3 : Int} {Q : Ending → World → Prop} (h6 : tm[6]? = some (.pointer (some ⟨N, 0, none⟩))) (h7 : tm[7]? = some (.bool ok)) (hF : Four W N x0 x1 x2 x3)
    (hQ : Q (.returned (.tuple #[.agg #[.int .i64 x0, .int .i64 x1, .int .i64 x2, .int .i64 x3], .bool ok])) W) : bodyPost Try.prog Try.f19 Q Exit.ret { tmps := tm, defers := [] } W := by
  obtain ⟨c0, c1, c2, c3, _⟩ := hF
  refine bodyPost_ret (v := .tuple #[.agg #[.int .i64 x0, .int .i64 x1, .int .i64 x2, .int .i64 x3], .bool ok]) ?_ rfl hQ
  simp [results, Try.results19, go_sem, h6, h7, c0, c1, c2, c3]
theorem two_zero (w : World) : Four ((w.alloc (.cells #[.int .i64 0, .int .i64 0, .int .i64 0, .int .i64 0] 41)).alloc (.cells #[.int .i64 0, .int .i64 0, .int .i64 0, .int .i64 0] 41)) w.heap.size 0 0 0 0 ∧
    Four ((w.alloc (.cells #[.int .i64 0, .int .i64 0, .int .i64 0, .int .i64 0] 41)).alloc (.cells #[.int .i64 0, .int .i64 0, .int .i64 0, .int .i64 0] 41)) (w.heap.size + 1) 0 0 0 0 ∧
    Below w.heap.size w ((w.alloc (.cells #[.int .i64 0, .int .i64 0, .int .i64 0, .int .i64 0] 41)).alloc (.cells #[.int .i64 0, .int .i64 0, .int .i64 0, .int .i64 0] 41)) ∧
    ((w.alloc (.cells #[.int .i64 0, .int .i64 0, .int .i64 0, .int .i64 0] 41)).alloc (.cells #[.int .i64 0, .int .i64 0, .int .i64 0, .int .i64 0] 41)).heap.size = w.heap.size + 2 := by
  refine ⟨?_, ?_, ((Below.refl _ _).alloc (Nat.le_refl _) _).alloc (by simp) _, by simp⟩
  · refine ⟨?_, ?_, ?_, ?_, ?_, ?_, ?_, ?_⟩ <;> simp [go_sem]
  · refine ⟨?_, ?_, ?_, ?_, ?_, ?_, ?_, ?_⟩ <;> simp [go_sem]
theorem Four.below {w w' : World} {b : Nat} {x0 x1 x2 x3 : Int} (h : Four w b x0 x1 x2 x3) (hb : Below w.heap.size w w') : Four w' b x0 x1 x2 x3 := by
  obtain ⟨c0, c1, c2, c3, f0, f1, f2, f3⟩ := h
  have hl := cell_lt' c0
  refine ⟨?_, ?_, ?_, ?_, ?_, ?_, ?_, ?_⟩
  · rw [hb.cell (p := ⟨b, 0, none⟩) hl]; exact c0
  · rw [hb.cell (p := ⟨b, 1, none⟩) hl]; exact c1
  · rw [hb.cell (p := ⟨b, 2, none⟩) hl]; exact c2
  · rw [hb.cell (p := ⟨b, 3, none⟩) hl]; exact c3
  · rw [hb.frozen (p := ⟨b, 0, none⟩) hl]; exact f0
  · rw [hb.frozen (p := ⟨b, 1, none⟩) hl]; exact f1
  · rw [hb.frozen (p := ⟨b, 2, none⟩) hl]; exact f2
  · rw [hb.frozen (p := ⟨b, 3, none⟩) hl]; exact f3

theorem Four.set {W : World} {N : Nat} {a0 a1 a2 a3 : Int} (h : Four W N a0 a1 a2 a3) (x0 x1 x2 x3 : Int) : Four ((((W.setCell ⟨N, 0, none⟩ (.int .i64 x0)).setCell ⟨N, 1, none⟩ (.int .i64 x1)).setCell ⟨N, 2, none⟩ (.int .i64 x2)).setCell ⟨N, 3, none⟩ (.int .i64 x3)) N x0 x1 x2 x3 := by
  obtain ⟨c0, c1, c2, c3, f0, f1, f2, f3⟩ := h
  refine ⟨?_, ?_, ?_, ?_, ?_, ?_, ?_, ?_⟩ <;> simp [go_sem, c0, c1, c2, c3, f0, f1, f2, f3]
theorem below_set {B N : Nat} {w W : World} (h : Below B w W) (hN : B ≤ N) (x0 x1 x2 x3 : Int) : Below B w ((((W.setCell ⟨N, 0, none⟩ (.int .i64 x0)).setCell ⟨N, 1, none⟩ (.int .i64 x1)).setCell ⟨N, 2, none⟩ (.int .i64 x2)).setCell ⟨N, 3, none⟩ (.int .i64 x3)) :=
  (((h.setCell hN _).setCell hN _).setCell hN _).setCell hN _
theorem walk_no {w W : World} {fl : Bool} {t : Tr} {tm : Array Value} {x0 x1 x2 x3 : Int} (h6 : tm[6]? = some (.pointer (some ⟨w.heap.size, 0, none⟩))) (h7 : tm[7]? = some (.bool false)) (hF : Four W w.heap.size x0 x1 x2 x3) (hB : Below w.heap.size w W) :
    bodyPost Try.prog Try.f19 (fun e w' => RetWalk fl t e ∧ Hid (Below w.heap.size w w')) Exit.ret { tmps := tm, defers := [] } ((((W.setCell ⟨w.heap.size, 0, none⟩ (.int .i64 0)).setCell ⟨w.heap.size, 1, none⟩ (.int .i64 0)).setCell ⟨w.heap.size, 2, none⟩ (.int .i64 0)).setCell ⟨w.heap.size, 3, none⟩ (.int .i64 0)) :=
  walk_end h6 h7 (hF.set 0 0 0 0) ⟨retWalk_no, below_set hB (Nat.le_refl _) _ _ _ _⟩

theorem four_new (w : World) (x0 x1 x2 x3 : Int) : Four (w.alloc (.cells #[.int .i64 x0, .int .i64 x1, .int .i64 x2, .int .i64 x3] 41)) w.heap.size x0 x1 x2 x3 := by
  refine ⟨?_, ?_, ?_, ?_, ?_, ?_, ?_, ?_⟩ <;> simp [go_sem]
theorem Four.drew {w : World} {b : Nat} {x0 x1 x2 x3 : Int} (h : Four w b x0 x1 x2 x3) : Four w.drew b x0 x1 x2 x3 := h
theorem Four.set3 {W : World} {N : Nat} {a0 a1 a2 a3 : Int} (h : Four W N a0 a1 a2 a3) (x3 : Int) : Four (W.setCell ⟨N, 3, none⟩ (.int .i64 x3)) N a0 a1 a2 x3 := by
  obtain ⟨c0, c1, c2, c3, f0, f1, f2, f3⟩ := h
  refine ⟨?_, ?_, ?_, ?_, ?_, ?_, ?_, ?_⟩ <;> simp [go_sem, c0, c1, c2, c3, f0, f1, f2, f3]
theorem goodL_of {fl : Bool} : ∀ {ts : List Tr}, (∀ i, i < ts.length → good fl (kid ts i)) → goodL fl ts
  | [], _ => by simp [goodL]
  | t :: ts, h => by
    unfold goodL
    refine ⟨by have := h 0 (by simp); rwa [kid_zero] at this, goodL_of fun i hi => ?_⟩
    have := h (i + 1) (by simpa using hi)
    rwa [kid_succ] at this
theorem good_of {fl : Bool} {op mn mx : Int} {set : List (Int × Int)} {subs : List Tr} (h1 : true = domB set) (h2 : set.length ≤ 131072) (h3 : subs.length ≤ 131072)
    (h8 : false = decide ((op = 5 ∨ op = 9) ∧ subs.length = 0)) (h10 : false = decide (op = 4 ∧ subs.length = 0 ∧ (fl = false ∨ 0 ≤ mx))) (h12 : false = decide (fl = true ∧ op = 4 ∧ 65536 < mx)) (hk : ∀ i, i < subs.length → good fl (kid subs i)) : good fl (.node op set subs mn mx) := by
  have h8' := of_decide_eq_false h8.symm
  have h10' := of_decide_eq_false h10.symm
  have h12' := of_decide_eq_false h12.symm
  unfold good
  refine ⟨(domB_iff set).1 h1.symm, h2, h3, fun h e => h8' ⟨h, by simp [e]⟩, fun h e => ?_, fun hf h => ?_, goodL_of hk⟩
  · subst e
    cases fl with
    | false => exact absurd ⟨h, by simp, .inl rfl⟩ h10'
    | true =>
      refine ⟨rfl, ?_⟩
      rcases Int.lt_or_le mx 0 with hm | hm
      · exact hm
      · exact absurd ⟨h, by simp, .inr hm⟩ h10'
  · rcases Int.lt_or_le 65536 mx with hm | hm
    · exact absurd ⟨hf, h, hm⟩ h12'
    · exact hm
theorem rngW_drop {ts : List Tr} {k : Nat} (h : k < ts.length) : rngL (ts.drop k) = rng (kid ts k) + rngL (ts.drop (k + 1)) := by
  rw [drop_kid h]; rfl
end Go.Proofs.Qxb6605195a
