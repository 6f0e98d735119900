import Derived.Test.Qxb6605195aFirst
set_option maxRecDepth 100000
namespace Go.Proofs.Qxb6605195a
open Go.ChangeShapes Go.WideShapes Go.ChangeAt Go.RowKit Plain
set_option linter.unusedVariables false

set_option maxHeartbeats 2000000 in
theorem firstChars_any {w0 : World} {a : Option Addr} {t : Tr} (h : NodeAt w0 a t) : Hid (good false t) → Hid (rng t ≤ 4096) → ∀ w, Hid (Below w0.heap.size w0 w) →
    Calls Try.prog 41 #[.pointer a] w fun e w' => RetFC t e w' ∧ Hid (Below w.heap.size w w') := by
  induction h with
  | node n op mn mx set sb M sg subs ua uc ps h0 h1 g h2 h3 h4 b0 b2 b3 b4 hp hs ih =>
    intro hg hr w HB
    have hg' := hg.out
    unfold good at hg'
    obtain ⟨_, _, hl, g5, g4, _, gl⟩ := hg'
    have hrs : rngL subs ≤ 4096 := by have := hr.out; simp only [rng] at this; omega
    have HG := hid (show rng (.node op set subs mn mx) = set.length + rngL subs by simp [rng])
    have HP := hid hp
    have HI := hid (fun i hi => ih i hi (hid (goodL_get gl i hi)) (hid (Nat.le_trans (rng_kid hi) hrs)))
    have k0 : w.cell? ⟨n, 0, none⟩ = some (.int .u8 op) := by rw [HB.out.cell (cell_lt' h0)]; exact h0
    have k1 : w.cell? ⟨n, 1, none⟩ = some (.pointer (some ⟨sb, 0, none⟩)) := by rw [HB.out.cell (cell_lt' h1)]; exact h1
    have k2 : w.cell? ⟨n, 2, none⟩ = some (.slice ua subs.length uc) := by rw [HB.out.cell (cell_lt' h2)]; exact h2
    have k3 : w.cell? ⟨n, 3, none⟩ = some (.int .i64 mn) := by rw [HB.out.cell (cell_lt' h3)]; exact h3
    have GS := hid (g.below HB.out)
    have ln := cell_lt' k0
    clear hp hs ih h0 h1 h2 h3 h4 gl g
    by_cases e2 : op = 2
    · subst e2
      exact fc_concat hl hrs HP HI w HB k0 k2
    by_cases e3 : op = 3 ∨ op = 10
    · exact fc_alt e3 hl hrs HP HI w HB k0 k2
    by_cases e1 : op = 1
    · subst e1
      have HE := hid (show false = emptB (.node 1 set subs mn mx) by simp [emptB])
      go_enter Try.func41, Try.ntmps41
      go_wp2_with fail
      refine (noneOK w).mono ?_
      rintro e wn ⟨⟨pn, rfl, SN⟩, BN⟩
      have kn0 := (BN.out.cell (p := ⟨n, 0, none⟩) ln).trans k0
      have kn1 := (BN.out.cell (p := ⟨n, 1, none⟩) ln).trans k1
      have HS : Hid (SetOK wn (some ⟨sb, 0, none⟩) (rng (.node 1 set subs mn mx))) := by
        obtain ⟨s, _, d, l, _⟩ := GS.out.below BN.out
        exact ⟨sb, M, sg, rfl, s, d, by rw [HG.out]; omega⟩
      go_wp2_with fail
      go_ret3
      exact ⟨retFC_yes HE.out HS.out, BN⟩
    by_cases e45 : op = 4 ∨ op = 5 ∨ op = 9
    · have hne : 0 < subs.length := by
        rcases Nat.eq_zero_or_pos subs.length with h | h
        · rcases e45 with e | e
          · exact absurd (g4 e (List.length_eq_zero_iff.1 h)).1 (by simp)
          · exact absurd (List.length_eq_zero_iff.1 h) (g5 e)
        · exact h
      have HRG := hid (show rng (kid subs 0) ≤ rng (.node op set subs mn mx) by
        have := rng_kid hne; rw [HG.out]; omega)
      obtain ⟨ub, uo, rfl, hc⟩ := HP.out hne
      have c0 : w.cell? ⟨ub, uo, none⟩ = some (.pointer (ps 0)) := by
        have := hc 0 hne
        rw [HB.out.cell (p := ⟨ub, uo, none⟩) (cell_lt' this)]; exact this
      have lu := cell_lt' c0
      clear hc
      rcases e45 with rfl | e5
      · have HR := hid (show refB (kid subs 0) = true → refB (.node 4 set subs mn mx) = true by
          obtain ⟨t, ts, rfl⟩ := List.exists_cons_of_length_pos hne
          rw [kid_zero]; intro h; simp [refB, refH, h])
        have HE := hid (show emptB (.node 4 set subs mn mx) = (emptB (kid subs 0) || decide (mn = 0)) by
          obtain ⟨t, ts, rfl⟩ := List.exists_cons_of_length_pos hne
          rw [kid_zero]; simp [emptB, emptH])
        go_enter Try.func41, Try.ntmps41
        go_wp2_with fail
        refine (noneOK w).mono ?_
        rintro e wn ⟨⟨pn, rfl, SN⟩, BN⟩
        have kn0 := (BN.out.cell (p := ⟨n, 0, none⟩) ln).trans k0
        have kn2 := (BN.out.cell (p := ⟨n, 2, none⟩) ln).trans k2
        have kn3 := (BN.out.cell (p := ⟨n, 3, none⟩) ln).trans k3
        have cn0 := (BN.out.cell (p := ⟨ub, uo, none⟩) lu).trans c0
        go_wp2_with fail
        refine (HI.out 0 hne wn (below_next HB.out BN.out)).mono ?_
        rintro e w1 ⟨⟨p1, em, kn, rfl, R1, R2⟩, B1⟩
        have ln2 := cell_lt' kn3
        have y3 := (B1.out.cell (p := ⟨n, 3, none⟩) ln2).trans kn3
        have HB2 := hid (below_next BN.out B1.out)
        have HRET : ∀ b w', b = (em || decide (mn = 0)) → Hid (Below w1.heap.size w1 w') → RetFC (.node 4 set subs mn mx) (.returned (.tuple #[.pointer p1, .bool b, .bool kn])) w' := by
          intro b w' hb BL
          refine ⟨p1, b, kn, rfl, fun h => HR.out (R1.out h), fun h => ⟨?_, ?_⟩⟩
          · rw [HE.out, hb, (R2.out h).1]
          · exact ((R2.out h).2.below BL.out).mono HRG.out
        have HRET' := hid HRET
        clear HRET
        cases em
        · by_cases hz : mn = 0
          · subst hz
            go_wp2_with fail
            go_quiet (fail)
            go_wp2_with fail
            go_ret3
            exact ⟨HRET'.out _ _ (by simp) (below_drewN (Below.refl _ _) _), below_drewN HB2.out _⟩
          · have hz1 : (mn == 0) = false := by simpa using hz
            have hz2 : decide (mn = 0) = false := by simpa using hz
            go_wp2_with fail
            go_quiet (fail)
            go_wp2_with fail
            go_ret3
            exact ⟨HRET'.out _ _ (by simp [hz]) (below_drewN (Below.refl _ _) _), below_drewN HB2.out _⟩
        · go_wp2_with fail
          go_quiet (fail)
          go_wp2_with fail
          go_ret3
          exact ⟨HRET'.out _ _ (by simp) (below_drewN (Below.refl _ _) _), below_drewN HB2.out _⟩
      · have HR := hid (show refB (.node op set subs mn mx) = refB (kid subs 0) ∧ emptB (.node op set subs mn mx) = emptB (kid subs 0) by
          obtain ⟨t, ts, rfl⟩ := List.exists_cons_of_length_pos hne
          rw [kid_zero]; rcases e5 with rfl | rfl <;> simp [refB, refH, emptB, emptH])
        rcases e5 with rfl | rfl
        all_goals
          go_enter Try.func41, Try.ntmps41
          go_wp2_with fail
          refine (noneOK w).mono ?_
          rintro e wn ⟨⟨pn, rfl, SN⟩, BN⟩
          have kn0 := (BN.out.cell (p := ⟨n, 0, none⟩) ln).trans k0
          have kn2 := (BN.out.cell (p := ⟨n, 2, none⟩) ln).trans k2
          have cn0 := (BN.out.cell (p := ⟨ub, uo, none⟩) lu).trans c0
          go_wp2_with fail
          refine (HI.out 0 hne wn (below_next HB.out BN.out)).mono ?_
          rintro e w1 ⟨⟨p1, em, kn, rfl, R1, R2⟩, B1⟩
          have HB2 := hid (below_next BN.out B1.out)
          go_wp2_with fail
          go_ret3
          refine ⟨⟨p1, em, kn, rfl, fun h => ?_, fun h => ⟨?_, ?_⟩⟩, HB2⟩
          · rw [HR.out.1]; exact R1.out h
          · rw [HR.out.2]; exact (R2.out h).1
          · exact (R2.out h).2.mono HRG.out
    by_cases e6 : op = 6
    · subst e6
      have HR := hid (show refB (.node 6 set subs mn mx) = true by simp [refB])
      go_enter Try.func41, Try.ntmps41
      go_wp2_with fail
      refine (noneOK w).mono ?_
      rintro e wn ⟨⟨pn, rfl, SN⟩, BN⟩
      have kn0 := (BN.out.cell (p := ⟨n, 0, none⟩) ln).trans k0
      go_wp2_with fail
      go_ret3
      exact ⟨retFC_no HR.out, BN⟩
    · simp only [not_or] at e3 e45
      obtain ⟨e3, e10⟩ := e3
      obtain ⟨e4, e5, e9⟩ := e45
      have HE := hid (show true = emptB (.node op set subs mn mx) by simp [emptB, e1, e2, e3, e4, e5, e6, e9, e10])
      go_enter Try.func41, Try.ntmps41
      go_wp2_with fail
      refine (noneOK w).mono ?_
      rintro e wn ⟨⟨pn, rfl, SN⟩, BN⟩
      have kn0 := (BN.out.cell (p := ⟨n, 0, none⟩) ln).trans k0
      have HS := hid (SN.out.mono (Nat.zero_le (rng (.node op set subs mn mx))))
      go_wp2_with fail
      go_ret3
      exact ⟨retFC_yes HE.out HS.out, BN⟩

theorem zfirst_any {w0 : World} {a : Option Addr} {t : Tr} (h : Hid (NodeAt w0 a t)) (hg : Hid (good false t)) (hr : Hid (rng t ≤ 4096)) (w : World) (HB : Hid (Below w0.heap.size w0 w)) :
    Calls Try.prog 28 #[.pointer a] w fun e w' => RetFC t e w' ∧ Hid (Below w.heap.size w w') := by
  go_enter Try.func28, Try.ntmps28
  go_wp2_with fail
  refine (firstChars_any h.out hg hr w HB).mono ?_
  rintro e w1 ⟨⟨p1, em, kn, rfl, R1, R2⟩, B1⟩
  go_wp2_with fail
  go_ret3
  exact ⟨⟨p1, em, kn, rfl, R1, R2⟩, B1⟩
end Go.Proofs.Qxb6605195a
