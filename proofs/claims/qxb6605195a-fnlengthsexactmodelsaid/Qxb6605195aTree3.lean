import Derived.Test.Qxb6605195aTree2
namespace Go.Proofs.Qxb6605195a
open Go.ChangeShapes Go.WideShapes Go.ChangeAt Go.RowKit Plain
set_option linter.unusedVariables false
set_option maxRecDepth 100000

theorem below_drewQ {B : Nat} {a w : World} (n : Nat) (h : Below B a w) : Below B a (w.drewN n) := ⟨h.os, h.tape, h.output, h.size, h.block⟩
/-! ### repeatsOrdered -/
/-- every repeat with Max >= 0 has 0 <= Min <= Max, as a Bool -/
def okRep (op mn mx : Int) : Bool := !(decide (op = 4) && decide (0 ≤ mx) && (decide (mn < 0) || decide (mx < mn)))
mutual
def ordB : Tr → Bool
  | .nil => false
  | .node op _ subs mn mx => okRep op mn mx && ordBL subs
def ordBL : List Tr → Bool
  | [] => true
  | t :: ts => ordB t && ordBL ts
end
theorem ordBL_drop {ts : List Tr} {k : Nat} (h : k < ts.length) : ordBL (ts.drop k) = (ordB (kid ts k) && ordBL (ts.drop (k + 1))) := by
  rw [drop_kid h]; rfl

set_option maxHeartbeats 2000000 in
theorem ordered_any {w0 : World} {a : Option Addr} {t : Tr} (h : TreeAt w0 a t) : ∀ w, Hid (Below w0.heap.size w0 w) → Hid (good true t) →
    Calls Try.prog 27 #[.pointer a] w fun e w' => e = .returned (.bool (ordB t)) ∧ Hid (Below w.heap.size w w') := by
  induction h with
  | nil => intro w _ hg; exact absurd hg.out (by unfold good; exact id)
  | node b off op mn mx set sa sc subs ua uc ps h0 h1 g h2 hn h3 h4 b0 b1 b2 b3 b4 hp hs ih =>
    intro w HB hg
    have hg' := hg.out
    unfold good at hg'
    obtain ⟨_, _, hl, g5, g4, g4', gl⟩ := hg'
    have HG := hid (goodL_get gl)
    have HP := hid hp
    have HI := hid ih
    have k0 : w.cell? ⟨b, off, none⟩ = some (.int .u8 op) := by rw [HB.out.cell (cell_lt' h0)]; exact h0
    have k2 : w.cell? ⟨b, off + 2, none⟩ = some (.slice ua subs.length uc) := by rw [HB.out.cell (cell_lt' h2)]; exact h2
    have k3 : w.cell? ⟨b, off + 3, none⟩ = some (.int .i64 mn) := by rw [HB.out.cell (cell_lt' h3)]; exact h3
    have k4 : w.cell? ⟨b, off + 4, none⟩ = some (.int .i64 mx) := by rw [HB.out.cell (cell_lt' h4)]; exact h4
    clear hp hs ih h0 h1 h2 h3 h4 gl g hn g4 g4' g5
    by_cases hbad : op = 4 ∧ 0 ≤ mx ∧ (mn < 0 ∨ (0 ≤ mn ∧ mx < mn))
    · obtain ⟨e4, m0, m1⟩ := hbad
      have HR := hid (show false = ordB (.node op set subs mn mx) by
        rcases m1 with m1 | ⟨_, m1⟩
        · simp [ordB, okRep, e4, m0, m1]
        · simp [ordB, okRep, e4, m0, m1])
      have d0 : (op == 4) = true := by simp [e4]
      have d1 : decide (0 ≤ mx) = true := by simp [m0]
      clear e4
      rcases m1 with m1 | ⟨m1, m2⟩
      · have d2 : decide (mn < 0) = true := by simp [m1]
        go_enter Try.func27, Try.ntmps27
        go_wp2_with fail
        go_big_quiet (fail)
        go_wp2_with fail
        go_ret
        exact ⟨ret_bool HR.out, below_drewQ _ (Below.refl _ _)⟩
      · have d2 : decide (mn < 0) = false := by simp [m1]
        have d3 : decide (mx < mn) = true := by simp [m2]
        go_enter Try.func27, Try.ntmps27
        go_wp2_with fail
        go_big_quiet (fail)
        go_wp2_with fail
        go_ret
        exact ⟨ret_bool HR.out, below_drewQ _ (Below.refl _ _)⟩
    · have HR := hid (show ordB (.node op set subs mn mx) = ordBL subs by
        have : okRep op mn mx = true := by
          unfold okRep
          by_cases e4 : op = 4
          · by_cases m0 : 0 ≤ mx
            · have h1 : ¬ mn < 0 := fun h => hbad ⟨e4, m0, .inl h⟩
              have h2 : ¬ mx < mn := fun h => hbad ⟨e4, m0, .inr ⟨by omega, h⟩⟩
              simp [h1, h2]
            · simp [m0]
          · simp [e4]
        simp [ordB, this])
      rw [HR.out]
      have hcase : (op == 4) = false ∨ ((op == 4) = true ∧ decide (0 ≤ mx) = false) ∨ ((op == 4) = true ∧ decide (0 ≤ mx) = true ∧ decide (mn < 0) = false ∧ decide (mx < mn) = false) := by
        by_cases e4 : op = 4
        · by_cases m0 : 0 ≤ mx
          · have h1 : ¬ mn < 0 := fun h => hbad ⟨e4, m0, .inl h⟩
            have h2 : ¬ mx < mn := fun h => hbad ⟨e4, m0, .inr ⟨by omega, h⟩⟩
            exact .inr (.inr ⟨by simp [e4], by simp [m0], by simp only [h1, decide_false], by simp only [h2, decide_false]⟩)
          · exact .inr (.inl ⟨by simp [e4], by simp only [m0, decide_false]⟩)
        · exact .inl (by simp [e4])
      clear hbad
      rcases hcase with d0 | ⟨d0, d1⟩ | ⟨d0, d1, d2, d3⟩
      all_goals
        go_enter Try.func27, Try.ntmps27
        go_wp2_with fail
        go_big_quiet (fail)
        go_wp2_with fail
        obtain ⟨wq, hwq⟩ : ∃ wq, wq = w.drewN nq := ⟨_, rfl⟩
        have HQ : Hid (Below w.heap.size w wq) := by rw [hwq]; exact below_drewQ _ (Below.refl _ _)
        rw [← hwq]
        clear hwq
        go_loopw [40] (fun i wr => ∃ k : Nat, k ≤ subs.length ∧ i = .int .i64 k ∧ Hid (Below w.heap.size w wr) ∧ Hid (ordBL subs = ordBL (subs.drop k))) (fun i _ => subs.length - (intOf i).toNat)
        case atStart => exact ⟨0, Nat.zero_le _, rfl, HQ, rfl⟩
        case round =>
          obtain ⟨k, hk, rfl, HB1, HD⟩ := hrel
          by_cases hlt : k < subs.length
          · obtain ⟨ub, uo, rfl, hc⟩ := HP.out (by omega)
            have c0 : wr.cell? ⟨ub, uo + k, none⟩ = some (.pointer (ps k)) := by
              have := hc k hlt
              rw [(HB.out.trans (HB1.out.mono HB.out.size)).cell (p := ⟨ub, uo + k, none⟩) (cell_lt' this)]; exact this
            have HE := hid (HD.out.trans (ordBL_drop hlt))
            clear hc HD
            go_wp2_with fail
            refine (HI.out k hlt wr (HB.out.trans (HB1.out.mono HB.out.size)) (HG.out k hlt)).mono ?_
            rintro e w1 ⟨rfl, B1⟩
            have HB2 := hid (below_next HB1.out B1.out)
            obtain ⟨rk, hrk⟩ : ∃ r, r = ordB (kid subs k) := ⟨_, rfl⟩
            rw [← hrk]
            cases rk
            · have HN := hid (show false = ordBL subs by rw [HE.out, ← hrk]; rfl)
              clear HE hrk
              go_wp2_with fail
              go_ret
              exact ⟨ret_bool HN.out, HB2⟩
            · have HN := hid (show ordBL subs = ordBL (subs.drop (k + 1)) by rw [HE.out, ← hrk]; rfl)
              clear HE hrk
              go_wp2_with fail
              go_roundw
              case rel => exact ⟨k + 1, hlt, by go_num, HB2, HN⟩
              case measure => simp [intOf]; omega
          · have HN := hid (show true = ordBL subs by rw [HD.out, List.drop_of_length_le (by omega)]; rfl)
            clear HD
            go_wp2_with fail
            go_ret
            exact ⟨ret_bool HN.out, HB1⟩
end Go.Proofs.Qxb6605195a
