import Derived.Test.Qxb6605195aLens2
set_option maxRecDepth 100000
namespace Go.Proofs.Qxb6605195a
open Go.ChangeShapes Go.WideShapes Go.ChangeAt Go.RowKit Plain
set_option linter.unusedVariables false

/-- what 'lengths' hands back -/
def RetLen (t : Tr) (e : Ending) (w' : World) : Prop := ∃ a L c ok, e = .returned (.tuple #[.slice a (List.length L) c, .bool ok]) ∧ Hid (IntRow .i64 w' a L) ∧ Hid (a = none → L = [] ∧ c = 0) ∧ Hid (LenOf t a.isNone ok L)
theorem retLen_fail {t : Tr} {w' : World} (h : refB t = false → small (raw t) → 256 ≤ raw t) : RetLen t (.returned (.tuple #[.slice none 0 0, .bool false])) w' :=
  ⟨none, [], 0, false, rfl, fun h => absurd h (by simp), fun _ => ⟨rfl, rfl⟩, lenOf_fail h⟩
theorem intRow_one (w : World) (z : Int) (t : TypeId) : IntRow .i64 (w.alloc (.cells #[.int .i64 z] t)) (some ⟨w.heap.size, 0, none⟩) [z] := by
  intro _
  refine ⟨_, _, rfl, fun i hi => ?_⟩
  obtain rfl : i = 0 := by simpa using hi
  simp [go_sem]
theorem retLen_one {t : Tr} {w : World} {z : Int} (h : lens t = [z]) (hr : refB t = false) (hf : fits t) : RetLen t (.returned (.tuple #[.slice (some ⟨w.heap.size, 0, none⟩) 1 1, .bool true])) (w.alloc (.cells #[.int .i64 z] 3)) :=
  ⟨_, [z], 1, true, rfl, intRow_one w z 3, fun h => (by cases h), ⟨fun _ => (by simp), fun h' => (by rw [hr] at h'; cases h'), fun _ _ => ⟨fun _ => h.symm, fun h => (by cases h)⟩, fun _ _ _ => hf⟩⟩

set_option maxHeartbeats 2000000 in
theorem len_concat {w0 : World} {n : Nat} {set : List (Int × Int)} {subs : List Tr} {mn mx : Int} {ua : Option Addr} {uc : Nat} {ps : Nat → Option Addr} (hl : subs.length ≤ 131072)
    (HP : Hid (0 < subs.length → ∃ ub uo, ua = some ⟨ub, uo, none⟩ ∧ ∀ i, i < subs.length → w0.cell? ⟨ub, uo + i, none⟩ = some (.pointer (ps i))))
    (HI : Hid (∀ i, i < subs.length → ∀ w, Hid (Below w0.heap.size w0 w) → Calls Try.prog 37 #[.pointer (ps i)] w fun e w' => RetLen (kid subs i) e w' ∧ Hid (Below w.heap.size w w')))
    (w : World) (HB : Hid (Below w0.heap.size w0 w)) (k0 : w.cell? ⟨n, 0, none⟩ = some (.int .u8 2)) (k2 : w.cell? ⟨n, 2, none⟩ = some (.slice ua subs.length uc)) :
    Calls Try.prog 37 #[.pointer (some ⟨n, 0, none⟩)] w fun e w' => RetLen (.node 2 set subs mn mx) e w' ∧ Hid (Below w.heap.size w w') := by
  have HR := hid (show refB (.node 2 set subs mn mx) = refL subs by simp [refB])
  have HW := hid (show raw (.node 2 set subs mn mx) = rawS subs by simp [raw])
  have HL := hid (show lens (.node 2 set subs mn mx) = lensC [0] subs by simp [lens])
  have HFT := hid (show fitsC [0] subs → fits (.node 2 set subs mn mx) by simp [fits])
  have ln := cell_lt' k0
  have kk2 : (w.alloc (.cells #[.int .i64 0] 3)).cell? ⟨n, 2, none⟩ = some (.slice ua subs.length uc) := by
    rw [((Below.refl w.heap.size w).alloc (Nat.le_refl _) _).cell (p := ⟨n, 2, none⟩) ln]; exact k2
  go_enter Try.func37, Try.ntmps37
  go_wp2_with fail
  go_loopw [4, 34] (fun v i wr => ∃ (k : Nat) (a : Option Addr) (S : List Int) (c : Nat), k ≤ subs.length ∧ i = .int .i64 k ∧ v = .slice a S.length c ∧ S.length ≤ 256 ∧ Hid (IntRow .i64 wr a S) ∧ Hid (a = none → S = [] ∧ c = 0) ∧ Hid (CatRel subs k S) ∧ Hid (Below w.heap.size w wr)) (fun _ i _ => subs.length - (intOf i).toNat)
  case atStart => exact ⟨0, _, [0], 1, Nat.zero_le _, rfl, rfl, by simp, intRow_one w 0 3, fun h => (by cases h), relC_start subs, (Below.refl _ _).alloc (Nat.le_refl _) _⟩
  case round =>
    obtain ⟨k, a, S, c, hk, rfl, rfl, hS, HI1, HN1, HC, HB1⟩ := hrel
    by_cases hlt : k < subs.length
    · obtain ⟨ub, uo, rfl, hc⟩ := HP.out (by omega)
      have C0 := hid (below_next HB.out HB1.out)
      have c0 : wr.cell? ⟨ub, uo + k, none⟩ = some (.pointer (ps k)) := by
        have := hc k hlt
        rw [C0.out.cell (p := ⟨ub, uo + k, none⟩) (cell_lt' this)]; exact this
      clear hc
      go_wp2_with fail
      refine (HI.out k hlt wr C0).mono ?_
      rintro e w1 ⟨⟨a1, L, c1, ok, rfl, I1, N1, LO⟩, B1⟩
      have HB2 := hid (below_next HB1.out B1.out)
      cases ok
      · have HF := hid (fun hr hs => by
          rw [HR.out] at hr; rw [HW.out] at hs ⊢
          exact relC_no HC.out hlt LO.out hr hs : refB (.node 2 set subs mn mx) = false → small (raw (.node 2 set subs mn mx)) → 256 ≤ raw (.node 2 set subs mn mx))
        go_wp2_with fail
        go_ret2
        exact ⟨retLen_fail HF.out, HB2⟩
      · have hL := (lenOf_yes LO.out).2.1
        have I1' := hid (HI1.out.below B1.out)
        go_wp2_with fail
        refine (sums_any a a1 c c1 S L w1 hS hL I1' I1).mono ?_
        rintro e w2 ⟨⟨a2, c2, rfl, I2, N2, _⟩, B2⟩
        have HB3 := hid (below_next HB2.out B2.out)
        by_cases h256 : (uniq (plusW S L)).length ≤ 256
        · have HN := hid (relC_next HC.out hlt LO.out h256)
          rw [show decide ((uniq (plusW S L)).length ≤ 256) = true from by simp [h256]]
          go_wp2_with fail
          go_roundw
          case rel => exact ⟨k + 1, a2, _, c2, hlt, by go_num, rfl, h256, I2, N2, HN, HB3⟩
          case measure => simp [intOf]; omega
        · have HF := hid (fun hr hs => by
            rw [HW.out] at hs ⊢
            exact relC_many HC.out hlt LO.out (by omega) hs : refB (.node 2 set subs mn mx) = false → small (raw (.node 2 set subs mn mx)) → 256 ≤ raw (.node 2 set subs mn mx))
          rw [show decide ((uniq (plusW S L)).length ≤ 256) = false from by simp; omega]
          go_wp2_with fail
          go_ret2
          exact ⟨retLen_fail HF.out, HB3⟩
    · have HE := hid (relC_end HC.out hlt)
      go_wp2_with fail
      go_ret2
      refine ⟨⟨a, S, c, true, rfl, HI1, HN1, ?_⟩, HB1⟩
      refine ⟨fun _ => hS, fun h => ?_, fun _ hs => ⟨fun _ => ?_, fun h => by cases h⟩, fun _ hs _ => ?_⟩
      · rw [HR.out, HE.out.1] at h; cases h
      · rw [HL.out]; exact (HE.out.2 (by rw [← HW.out]; exact hs)).1
      · exact HFT.out (HE.out.2 (by rw [← HW.out]; exact hs)).2

set_option maxHeartbeats 2000000 in
theorem len_alt {w0 : World} {n : Nat} {op : Int} (e3 : op = 3 ∨ op = 10) {set : List (Int × Int)} {subs : List Tr} {mn mx : Int} {ua : Option Addr} {uc : Nat} {ps : Nat → Option Addr} (hl : subs.length ≤ 131072)
    (HP : Hid (0 < subs.length → ∃ ub uo, ua = some ⟨ub, uo, none⟩ ∧ ∀ i, i < subs.length → w0.cell? ⟨ub, uo + i, none⟩ = some (.pointer (ps i))))
    (HI : Hid (∀ i, i < subs.length → ∀ w, Hid (Below w0.heap.size w0 w) → Calls Try.prog 37 #[.pointer (ps i)] w fun e w' => RetLen (kid subs i) e w' ∧ Hid (Below w.heap.size w w')))
    (w : World) (HB : Hid (Below w0.heap.size w0 w)) (k0 : w.cell? ⟨n, 0, none⟩ = some (.int .u8 op)) (k2 : w.cell? ⟨n, 2, none⟩ = some (.slice ua subs.length uc)) :
    Calls Try.prog 37 #[.pointer (some ⟨n, 0, none⟩)] w fun e w' => RetLen (.node op set subs mn mx) e w' ∧ Hid (Below w.heap.size w w') := by
  have HR := hid (show refB (.node op set subs mn mx) = refL subs by rcases e3 with rfl | rfl <;> simp [refB])
  have HW := hid (show raw (.node op set subs mn mx) = rawM subs by rcases e3 with rfl | rfl <;> simp [raw])
  have HL := hid (show lens (.node op set subs mn mx) = uniq (lensA subs) by rcases e3 with rfl | rfl <;> simp [lens])
  have HFT := hid (show fitsA subs → fits (.node op set subs mn mx) by rcases e3 with rfl | rfl <;> simp [fits])
  rcases e3 with rfl | rfl
  all_goals
    go_enter Try.func37, Try.ntmps37
    go_wp2_with fail
    go_loopw [9, 63] (fun v i wr => ∃ (k : Nat) (zs : List Int), k ≤ subs.length ∧ i = .int .i64 k ∧ zs.length ≤ k * 256 ∧ Hid (wr.ownsRow w.heap.size 3 1 v zs.length (zs.map (Value.int .i64))) ∧ Hid (AltRel subs k zs) ∧ Hid (Below w.heap.size w wr)) (fun _ i _ => subs.length - (intOf i).toNat)
    case atStart => exact ⟨0, [], Nat.zero_le _, rfl, by simp, World.ownsRow_nil _ _ _ _, ⟨rfl, fun _ => ⟨rfl, id⟩⟩, Below.refl _ _⟩
    case round =>
      obtain ⟨k, zs, hk, rfl, hzl, HO, HC, HB1⟩ := hrel
      by_cases hlt : k < subs.length
      · obtain ⟨ub, uo, rfl, hc⟩ := HP.out (by omega)
        have C0 := hid (below_next HB.out HB1.out)
        have c0 : wr.cell? ⟨ub, uo + k, none⟩ = some (.pointer (ps k)) := by
          have := hc k hlt
          rw [C0.out.cell (p := ⟨ub, uo + k, none⟩) (cell_lt' this)]; exact this
        clear hc
        go_wp2_with fail
        refine (HI.out k hlt wr C0).mono ?_
        rintro e w1 ⟨⟨a1, L, c1, ok, rfl, I1, N1, LO⟩, B1⟩
        have HB2 := hid (below_next HB1.out B1.out)
        cases ok
        · have HF := hid (fun hr hs => by
            rw [HR.out] at hr; rw [HW.out] at hs ⊢
            exact relA_no HC.out hlt LO.out hr hs : refB (.node _ set subs mn mx) = false → small (raw (.node _ set subs mn mx)) → 256 ≤ raw (.node _ set subs mn mx))
          go_wp2_with fail
          go_ret2
          exact ⟨retLen_fail HF.out, HB2⟩
        · have hL := (lenOf_yes LO.out).2.1
          have HO1 := hid (own_bel HO.out B1.out)
          have hwz := HB2.out.size
          have HN := hid (relA_next HC.out hlt LO.out)
          go_wp2_with (at_builtin; refine wpList_append_ints rfl (.tmp 74) (.tmp 75) rfl w.heap.size _ zs rfl HO1.out a1 c1 L rfl I1.out N1.out (by omega) hwz ?_; intro v1 w3 hown1 hgrow1 hloc1)
          refine ⟨⟨k + 1, zs ++ L, hlt, by simp, by simp; omega, hown1, HN, ?_⟩, by simp [intOf]; omega⟩
          exact below_push HB2.out HO1.out hgrow1 hwz
      · have HE := hid (relA_end HC.out hlt)
        have hwz := HB1.out.size
        go_wp2_with fail
        refine (unique_any w.heap.size _ zs wr (by omega) HO hwz).mono ?_
        rintro e w1 ⟨⟨a, c, rfl, R1, R2, _⟩, B1⟩
        have B2 := hid (HB1.out.trans B1.out)
        go_wp2_with fail
        go_ret2
        refine ⟨⟨a, _, c, _, rfl, R1, R2, lenOf_uniq (by rw [HR.out]; exact HE.out.1) (fun hs => ?_) (fun h => ?_) (fun hs => HFT.out (HE.out.2 (by rw [← HW.out]; exact hs)).2)⟩, B2⟩
        · rw [HL.out]; exact (HE.out.2 (by rw [← HW.out]; exact hs)).1
        · cases a with
          | none => exact (R2.out rfl).1
          | some _ => cases h

set_option maxHeartbeats 4000000 in
theorem len_rep {w0 : World} {n : Nat} {set : List (Int × Int)} {subs : List Tr} {mn : Int} {m : Nat} (hm : m ≤ 65536) {ua : Option Addr} {uc : Nat} {ps : Nat → Option Addr} (hne : 0 < subs.length)
    (b3 : -9223372036854775808 ≤ mn ∧ mn ≤ 9223372036854775807)
    (HP : Hid (0 < subs.length → ∃ ub uo, ua = some ⟨ub, uo, none⟩ ∧ ∀ i, i < subs.length → w0.cell? ⟨ub, uo + i, none⟩ = some (.pointer (ps i))))
    (HI : Hid (∀ i, i < subs.length → ∀ w, Hid (Below w0.heap.size w0 w) → Calls Try.prog 37 #[.pointer (ps i)] w fun e w' => RetLen (kid subs i) e w' ∧ Hid (Below w.heap.size w w')))
    (w : World) (HB : Hid (Below w0.heap.size w0 w)) (k0 : w.cell? ⟨n, 0, none⟩ = some (.int .u8 4)) (k2 : w.cell? ⟨n, 2, none⟩ = some (.slice ua subs.length uc)) (k3 : w.cell? ⟨n, 3, none⟩ = some (.int .i64 mn)) (k4 : w.cell? ⟨n, 4, none⟩ = some (.int .i64 (m : Int))) :
    Calls Try.prog 37 #[.pointer (some ⟨n, 0, none⟩)] w fun e w' => RetLen (.node 4 set subs mn (m : Int)) e w' ∧ Hid (Below w.heap.size w w') := by
  have HR := hid (show refB (.node 4 set subs mn (m : Int)) = refB (kid subs 0) by
    obtain ⟨t, ts, rfl⟩ := List.exists_cons_of_length_pos hne
    rw [kid_zero]
    have : ¬ ((m : Int) < 0) := by omega
    simp [refB, refH, this])
  have HW := hid (show raw (.node 4 set subs mn (m : Int)) = (m + 1) * raw (kid subs 0) by
    have : ¬ ((m : Int) < 0) := by omega
    rw [← raw_head hne]; simp [raw, this])
  have HL := hid (show lens (.node 4 set subs mn (m : Int)) = uniq (repAll mn (lens (kid subs 0)) (m + 1)) by
    obtain ⟨t, ts, rfl⟩ := List.exists_cons_of_length_pos hne
    rw [kid_zero]
    have : ¬ ((m : Int) < 0) := by omega
    simp [lens, lensH, this])
  have HFT := hid (show fits (kid subs 0) → (lens (kid subs 0)).length ≤ 256 → (∀ j, j ≤ m + 1 → (kfold (lens (kid subs 0)) j).length ≤ 256) → fits (.node 4 set subs mn (m : Int)) by
    obtain ⟨t, ts, rfl⟩ := List.exists_cons_of_length_pos hne
    rw [kid_zero]
    intro h1 h2 h3
    simp only [fits, show ¬ ((4 : Int) = 2) by omega, show ¬ ((4 : Int) = 3 ∨ (4 : Int) = 10) by omega, if_false, if_true, fitsH, lensH, Int.toNat_natCast]
    exact fun _ => ⟨⟨h1, h2⟩, h3⟩)
  have ln := cell_lt' k0
  obtain ⟨ub, uo, rfl, hc⟩ := HP.out hne
  have c0 : w.cell? ⟨ub, uo, none⟩ = some (.pointer (ps 0)) := by
    have := hc 0 hne
    rw [HB.out.cell (p := ⟨ub, uo, none⟩) (cell_lt' this)]; exact this
  clear hc
  go_enter Try.func37, Try.ntmps37
  go_wp2_with fail
  refine (HI.out 0 hne w HB).mono ?_
  rintro e w1 ⟨⟨a1, L, c1, ok, rfl, I1, N1, LO⟩, B1⟩
  have hz1 := B1.out.size
  cases ok
  · have HF := hid (fun hr hs => by
      rw [HR.out] at hr; rw [HW.out] at hs ⊢
      have h4 : 1 * raw (kid subs 0) ≤ (m + 1) * raw (kid subs 0) := Nat.mul_le_mul_right _ (by omega)
      have := lenOf_no LO.out hr (small_le hs (by omega))
      omega : refB (.node 4 set subs mn (m : Int)) = false → small (raw (.node 4 set subs mn (m : Int))) → 256 ≤ raw (.node 4 set subs mn (m : Int)))
    go_wp2_with fail
    go_ret2
    exact ⟨retLen_fail HF.out, B1⟩
  · have hL := (lenOf_yes LO.out).2.1
    go_wp2_with fail
    go_loopw [16, 17, 18] (fun v s i wr => ∃ (k : Nat) (zs : List Int) (a : Option Addr) (S : List Int) (c : Nat), k ≤ m + 1 ∧ i = .int .i64 k ∧ s = .slice a S.length c ∧ S.length ≤ 256 ∧ zs.length ≤ k * 256 ∧ Hid (wr.ownsRow w1.heap.size 3 1 v zs.length (zs.map (Value.int .i64))) ∧ Hid (IntRow .i64 wr a S) ∧ Hid (a = none → S = [] ∧ c = 0) ∧ Hid (∀ x, a = some x → v.ownBlock ≠ some x.block) ∧ Hid (RepRel (kid subs 0) mn m k zs S) ∧ Hid (Below w1.heap.size w1 wr)) (fun _ _ i _ => m + 1 - (intOf i).toNat)
    case atStart => exact ⟨0, [], _, [0], 1, Nat.zero_le _, rfl, rfl, by simp, by simp, World.ownsRow_nil _ _ _ _, intRow_one w1 0 3, fun h => (by cases h), fun x h => (by simp [Value.ownBlock]), relR_start _ _ _, (Below.refl _ _).alloc (Nat.le_refl _) _⟩
    case round =>
      obtain ⟨k, zs, a, S, c, hk, rfl, rfl, hS, hzl, HO, HI1, HN1, HD1, HC, HB1⟩ := hrel
      have D1 := hid (below_next B1.out HB1.out)
      have y3 : wr.cell? ⟨n, 3, none⟩ = some (.int .i64 mn) := by rw [D1.out.cell (p := ⟨n, 3, none⟩) ln]; exact k3
      have y4 : wr.cell? ⟨n, 4, none⟩ = some (.int .i64 (m : Int)) := by rw [D1.out.cell (p := ⟨n, 4, none⟩) ln]; exact k4
      by_cases hlt : k ≤ m
      · have I1r := hid (I1.out.below HB1.out)
        have hwz := HB1.out.size
        by_cases hmn : mn ≤ (k : Int)
        · have HNX := hid (relR_yes HC.out hlt LO.out hmn)
          go_wp2_with (at_builtin; refine wpList_append_ints rfl (.tmp 116) (.tmp 117) rfl w1.heap.size _ zs rfl HO.out a c S rfl HI1.out HN1.out (by omega) hwz ?_; intro v1 w3 hown1 hgrow1 hloc1)
          have HB3 := hid (below_push HB1.out HO.out hgrow1 hwz)
          have I3 := hid (HI1.out.grown hgrow1 HD1.out)
          have IL := hid (I1.out.below HB3.out)
          have HO3 := hid hown1
          clear hown1 hgrow1 hloc1
          refine (sums_any a a1 c c1 S L w3 hS hL I3 IL).mono ?_
          rintro e w4 ⟨⟨a4, c4, rfl, I4, N4, K4⟩, B4⟩
          have HB4 := hid (below_next HB3.out B4.out)
          have HO4 := hid (own_bel HO3.out B4.out)
          have HD4 : Hid (∀ x, a4 = some x → v1.ownBlock ≠ some x.block) := fun x hx he => by
            have h1 := K4.out x hx
            have h2 := (HO3.out.lt _ he).2
            omega
          by_cases h256 : (uniq (plusW S L)).length ≤ 256
          · have HN := hid (HNX.out h256)
            rw [show decide ((uniq (plusW S L)).length ≤ 256) = true from by simp [h256]]
            go_wp2_with fail
            go_roundw
            case rel => exact ⟨k + 1, zs ++ S, a4, _, c4, by omega, by go_num, rfl, h256, by simp; omega, HO4, I4, N4, HD4, HN, HB4⟩
            case measure => simp [intOf]; omega
          · have HF := hid (fun hr hs => by
              rw [HW.out] at hs ⊢
              exact relR_many HC.out hlt LO.out (by omega) hs : refB (.node 4 set subs mn (m : Int)) = false → small (raw (.node 4 set subs mn (m : Int))) → 256 ≤ raw (.node 4 set subs mn (m : Int)))
            have HBE := hid (below_next B1.out HB4.out)
            rw [show decide ((uniq (plusW S L)).length ≤ 256) = false from by simp; omega]
            go_wp2_with fail
            go_ret2
            exact ⟨retLen_fail HF.out, HBE⟩
        · have HNX := hid (relR_not HC.out hlt LO.out hmn)
          go_wp2_with fail
          refine (sums_any a a1 c c1 S L wr hS hL HI1 I1r).mono ?_
          rintro e w4 ⟨⟨a4, c4, rfl, I4, N4, K4⟩, B4⟩
          have HB4 := hid (below_next HB1.out B4.out)
          have HO4 := hid (own_bel HO.out B4.out)
          have HD4 : Hid (∀ x, a4 = some x → u16.ownBlock ≠ some x.block) := fun x hx he => by
            have h1 := K4.out x hx
            have h2 := (HO.out.lt _ he).2
            omega
          by_cases h256 : (uniq (plusW S L)).length ≤ 256
          · have HN := hid (HNX.out h256)
            rw [show decide ((uniq (plusW S L)).length ≤ 256) = true from by simp [h256]]
            go_wp2_with fail
            go_roundw
            case rel => exact ⟨k + 1, zs, a4, _, c4, by omega, by go_num, rfl, h256, by omega, HO4, I4, N4, HD4, HN, HB4⟩
            case measure => simp [intOf]; omega
          · have HF := hid (fun hr hs => by
              rw [HW.out] at hs ⊢
              exact relR_many HC.out hlt LO.out (by omega) hs : refB (.node 4 set subs mn (m : Int)) = false → small (raw (.node 4 set subs mn (m : Int))) → 256 ≤ raw (.node 4 set subs mn (m : Int)))
            have HBE := hid (below_next B1.out HB4.out)
            rw [show decide ((uniq (plusW S L)).length ≤ 256) = false from by simp; omega]
            go_wp2_with fail
            go_ret2
            exact ⟨retLen_fail HF.out, HBE⟩
      · have hke : k = m + 1 := by omega
        have hwz := HB1.out.size
        go_wp2_with fail
        refine (unique_any w1.heap.size _ zs wr (by omega) HO hwz).mono ?_
        rintro e w4 ⟨⟨a4, c4, rfl, R1, R2, _⟩, B4⟩
        have B5 := hid (HB1.out.trans B4.out)
        have B6 := hid (below_next B1.out B5.out)
        go_wp2_with fail
        go_ret2
        refine ⟨⟨a4, _, c4, _, rfl, R1, R2, lenOf_uniq (by rw [HR.out]; exact (lenOf_yes LO.out).1) (fun hs => ?_) (fun h => ?_) (fun hs => ?_)⟩, B6⟩
        · rw [HL.out, ((HC.out) (by rw [← HW.out]; exact hs)).1, hke]
        rotate_left
        · have hs' : small ((m + 1) * raw (kid subs 0)) := by rw [← HW.out]; exact hs
          have hsk : small (raw (kid subs 0)) := small_le hs' (by rw [Nat.succ_mul]; omega)
          have hLe := (lenOf_yes LO.out).2.2 hsk
          exact HFT.out (lenOf_fits LO.out hsk) (by rw [← hLe]; exact hL) (by rw [← hke]; exact (HC.out hs').2.2)
        · cases a4 with
          | none => exact (R2.out rfl).1
          | some _ => cases h
end Go.Proofs.Qxb6605195a
