import Derived.Test.Qxb6605195aLens3
set_option maxRecDepth 100000
namespace Go.Proofs.Qxb6605195a
open Go.ChangeShapes Go.WideShapes Go.ChangeAt Go.RowKit Plain
set_option linter.unusedVariables false

set_option maxHeartbeats 2000000 in
theorem lengths_any {w0 : World} {a : Option Addr} {t : Tr} (h : NodeAt w0 a t) : Hid (good true t) → ∀ w, Hid (Below w0.heap.size w0 w) →
    Calls Try.prog 37 #[.pointer a] w fun e w' => RetLen t e w' ∧ Hid (Below w.heap.size w w') := by
  induction h with
  | node n op mn mx set sb M sg subs ua uc ps h0 h1 g h2 h3 h4 b0 b2 b3 b4 hp hs ih =>
    intro hg w HB
    have hg' := hg.out
    unfold good at hg'
    obtain ⟨_, _, hl, g5, g4, g4', gl⟩ := hg'
    have HP := hid hp
    have HI := hid (fun i hi => ih i hi (hid (goodL_get gl i hi)))
    have k0 : w.cell? ⟨n, 0, none⟩ = some (.int .u8 op) := by rw [HB.out.cell (cell_lt' h0)]; exact h0
    have k2 : w.cell? ⟨n, 2, none⟩ = some (.slice ua subs.length uc) := by rw [HB.out.cell (cell_lt' h2)]; exact h2
    have k3 : w.cell? ⟨n, 3, none⟩ = some (.int .i64 mn) := by rw [HB.out.cell (cell_lt' h3)]; exact h3
    have k4 : w.cell? ⟨n, 4, none⟩ = some (.int .i64 mx) := by rw [HB.out.cell (cell_lt' h4)]; exact h4
    clear hp hs ih h0 h1 h2 h3 h4 gl g
    by_cases e1 : op = 1
    · subst e1
      have HL := hid (show lens (.node 1 set subs mn mx) = [1] by simp [lens])
      have HR := hid (show refB (.node 1 set subs mn mx) = false by simp [refB])
      have HFT := hid (show fits (.node 1 set subs mn mx) by simp [fits])
      go_enter Try.func37, Try.ntmps37
      go_wp2_with fail
      go_ret2
      exact ⟨retLen_one HL.out HR.out HFT.out, (Below.refl _ _).alloc (Nat.le_refl _) _⟩
    by_cases e2 : op = 2
    · subst e2
      exact len_concat hl HP HI w HB k0 k2
    by_cases e3 : op = 3 ∨ op = 10
    · exact len_alt e3 hl HP HI w HB k0 k2
    by_cases e4 : op = 4
    · subst e4
      by_cases m0 : mx < 0
      · have HR := hid (show refB (.node 4 set subs mn mx) = true by simp [refB, m0])
        go_enter Try.func37, Try.ntmps37
        go_wp2_with fail
        go_ret2
        exact ⟨retLen_fail (fun h => by rw [HR.out] at h; cases h), Below.refl _ _⟩
      · have hne : 0 < subs.length := by
          rcases Nat.eq_zero_or_pos subs.length with h | h
          · exact absurd (g4 rfl (List.length_eq_zero_iff.1 h)).2 m0
          · exact h
        have hm1 := g4' rfl rfl
        obtain ⟨m, hm⟩ : ∃ m : Nat, mx = m := ⟨mx.toNat, by omega⟩
        subst hm
        exact len_rep (by omega) hne b3 HP HI w HB k0 k2 k3 k4
    by_cases e5 : op = 5 ∨ op = 9
    · have hne : 0 < subs.length := by
        rcases Nat.eq_zero_or_pos subs.length with h | h
        · exact absurd (List.length_eq_zero_iff.1 h) (g5 e5)
        · exact h
      obtain ⟨ub, uo, rfl, hc⟩ := HP.out hne
      have c0 : w.cell? ⟨ub, uo, none⟩ = some (.pointer (ps 0)) := by
        have := hc 0 hne
        rw [HB.out.cell (p := ⟨ub, uo, none⟩) (cell_lt' this)]; exact this
      clear hc
      have HR := hid (show refB (.node op set subs mn mx) = refB (kid subs 0) ∧ raw (.node op set subs mn mx) = raw (kid subs 0) ∧ lens (.node op set subs mn mx) = lens (kid subs 0) ∧ (fits (kid subs 0) → fits (.node op set subs mn mx)) by
        obtain ⟨t, ts, rfl⟩ := List.exists_cons_of_length_pos hne
        rw [kid_zero]; rcases e5 with rfl | rfl <;> simp [refB, refH, raw, rawH, lens, lensH, fits, fitsP])
      rcases e5 with rfl | rfl
      all_goals
        go_enter Try.func37, Try.ntmps37
        go_wp2_with fail
        refine (HI.out 0 hne w HB).mono ?_
        rintro e w1 ⟨⟨a1, L, c1, ok, rfl, I1, N1, LO⟩, B1⟩
        go_wp2_with fail
        go_ret2
        exact ⟨⟨a1, L, c1, ok, rfl, I1, N1, lenOf_same LO.out HR.out.1 HR.out.2.1 HR.out.2.2.1 HR.out.2.2.2⟩, B1⟩
    by_cases e6 : op = 6
    · subst e6
      have HR := hid (show refB (.node 6 set subs mn mx) = true by simp [refB])
      go_enter Try.func37, Try.ntmps37
      go_wp2_with fail
      go_ret2
      exact ⟨retLen_fail (fun h => by rw [HR.out] at h; cases h), Below.refl _ _⟩
    · have HL := hid (show lens (.node op set subs mn mx) = [0] by simp [lens, e1, e2, e3, e4, e5, e6])
      have HR := hid (show refB (.node op set subs mn mx) = false by simp only [not_or] at e3; simp [refB, e2, e3, e4, e5, e6])
      have HFT := hid (show fits (.node op set subs mn mx) by simp [fits, e2, e3, e4, e5])
      simp only [not_or] at e3 e5
      obtain ⟨e3, e10⟩ := e3
      obtain ⟨e5, e9⟩ := e5
      go_enter Try.func37, Try.ntmps37
      go_wp2_with fail
      go_ret2
      exact ⟨retLen_one HL.out HR.out HFT.out, (Below.refl _ _).alloc (Nat.le_refl _) _⟩

theorem zlengths_any {w0 : World} {a : Option Addr} {t : Tr} (h : Hid (NodeAt w0 a t)) (hg : Hid (good true t)) (w : World) (HB : Hid (Below w0.heap.size w0 w)) :
    Calls Try.prog 23 #[.pointer a] w fun e w' => RetLen t e w' ∧ Hid (Below w.heap.size w w') := by
  go_enter Try.func23, Try.ntmps23
  go_wp2_with fail
  refine (lengths_any h.out hg w HB).mono ?_
  rintro e w1 ⟨⟨a1, L, c1, ok, rfl, I1, N1, LO⟩, B1⟩
  go_wp2_with fail
  go_ret2
  exact ⟨⟨a1, L, c1, ok, rfl, I1, N1, LO⟩, B1⟩

/-! ### hasZero -/
set_option maxHeartbeats 1000000 in
theorem hasZero_any (a : Option Addr) (c : Nat) (L : List Int) (w : World) (hm : L.length ≤ 1048576) (hI : Hid (IntRow .i64 w a L)) :
    Calls Try.prog 29 #[.slice a L.length c] w fun e w' => e = .returned (.bool (decide (0 ∈ L))) ∧ Hid (Below w.heap.size w w') := by
  go_enter Try.func29, Try.ntmps29
  go_wp2_with fail
  go_loopw [7] (fun i wr => ∃ k : Nat, k ≤ L.length ∧ i = .int .i64 k ∧ Hid (0 ∈ L ↔ 0 ∈ L.drop k) ∧ Hid (Below w.heap.size w wr)) (fun i _ => L.length - (intOf i).toNat)
  case atStart => exact ⟨0, Nat.zero_le _, rfl, by show _ ↔ _; simp, Below.refl _ _⟩
  case round =>
    obtain ⟨k, hk, rfl, HZ, HB1⟩ := hrel
    by_cases hlt : k < L.length
    · obtain ⟨b1, o1, z, rfl, d1, _, HX, HM, _⟩ := hI.out.get HB1.out hlt
      by_cases hz : z = 0
      · subst hz
        have HT := hid (show true = decide (0 ∈ L) by simp [HM.out])
        clear HX HZ HM
        go_wp2_with fail
        go_ret
        exact ⟨ret_bool HT.out, HB1⟩
      · have HN : Hid (0 ∈ L ↔ 0 ∈ L.drop (k + 1)) := by
          show _ ↔ _
          rw [HZ.out, HX.out]
          simp only [List.mem_cons]
          constructor
          · rintro (h | h)
            · exact absurd h.symm hz
            · exact h
          · exact .inr
        clear HX HZ HM
        go_wp2_with fail
        go_roundw
        case rel => exact ⟨k + 1, hlt, by go_num, HN, HB1⟩
        case measure => simp [intOf]; omega
    · have HT := hid (show false = decide (0 ∈ L) by
        have := HZ.out
        rw [List.drop_of_length_le (by omega)] at this
        simp at this; simp [this])
      go_wp2_with fail
      go_ret
      exact ⟨ret_bool HT.out, HB1⟩
end Go.Proofs.Qxb6605195a
