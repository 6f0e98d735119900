import Derived.Test.Qxb6605195aSets3
import Derived.Test.Qxb6605195aBuild2
set_option maxRecDepth 100000
namespace Go.Proofs.Qxb6605195a
open Go.ChangeShapes Go.WideShapes Go.ChangeAt Go.RowKit Plain
set_option linter.unusedVariables false

theorem retRow_one (w : World) (z : Int) : RetRow w.heap.size [z] (.returned (.slice (some ⟨w.heap.size, 0, none⟩) 1 1)) (w.alloc (.cells #[.int .i64 z] 3)) := by
  refine ⟨_, 1, rfl, by simp, ?_, fun h => (by cases h), fun x h => (by cases h; exact Nat.le_refl _)⟩
  intro _
  refine ⟨_, _, rfl, fun i hi => ?_⟩
  obtain rfl : i = 0 := by simpa using hi
  simp [go_sem]
theorem raw_le_rawS : ∀ {ts : List Tr} {k : Nat}, k < ts.length → raw (kid ts k) ≤ rawS ts
  | [], k, h => absurd h (by simp)
  | t :: ts, 0, h => by rw [kid_zero]; simp only [rawS]; omega
  | t :: ts, k + 1, h => by
    rw [kid_succ]
    have := raw_le_rawS (ts := ts) (k := k) (by simpa using h)
    simp only [rawS]; omega
theorem refL_no : ∀ {ts : List Tr} {k : Nat}, k < ts.length → refL ts = false → refB (kid ts k) = false
  | [], k, h, _ => absurd h (by simp)
  | t :: ts, 0, h, hr => by rw [kid_zero]; simp [refL] at hr; exact hr.1
  | t :: ts, k + 1, h, hr => by
    rw [kid_succ]; simp [refL] at hr
    exact refL_no (by simpa using h) hr.2
def CatS (subs : List Tr) (k : Nat) (S : List Int) : Prop := lensC S (subs.drop k) = lensC [0] subs ∧ fitsC S (subs.drop k) ∧ ∃ p, p + rawS (subs.drop k) = rawS subs ∧ Upto p S
theorem catS_next {subs : List Tr} {k : Nat} {S : List Int} (h : CatS subs k S) (hk : k < subs.length) : (fits (kid subs k) ∧ (lens (kid subs k)).length ≤ 256 ∧ (sumL S (lens (kid subs k))).length ≤ 256) ∧ CatS subs (k + 1) (sumL S (lens (kid subs k))) ∧ ∃ p, Upto p S ∧ p + raw (kid subs k) ≤ rawS subs := by
  obtain ⟨h1, h2, p, h3, h4⟩ := h
  rw [lensC_drop S hk] at h1
  rw [fitsC_drop S hk] at h2
  rw [rawS_drop hk] at h3
  exact ⟨⟨h2.1, h2.2.1, h2.2.2.1⟩, ⟨h1, h2.2.2.2, p + raw (kid subs k), by omega, upto_sumL h4 (lens_ok _).2⟩, p, h4, by omega⟩

set_option maxHeartbeats 2000000 in
theorem ls_concat {w0 : World} {b off : Nat} {set : List (Int × Int)} {subs : List Tr} {mn mx : Int} {ua : Option Addr} {uc : Nat} {ps : Nat → Option Addr} (hl : subs.length ≤ 131072)
    (HP : Hid (0 < subs.length → ∃ ub uo, ua = some ⟨ub, uo, none⟩ ∧ ∀ i, i < subs.length → w0.cell? ⟨ub, uo + i, none⟩ = some (.pointer (ps i)))) (HF : Hid (fitsC [0] subs)) (HS : Hid (small (rawS subs)))
    (HI : Hid (∀ i, i < subs.length → Hid (fits (kid subs i)) → ∀ w, Hid (Below w0.heap.size w0 w) → Calls Try.prog 26 #[.pointer (ps i)] w fun e w' => RetRow w.heap.size (lens (kid subs i)) e w' ∧ Hid (Below w.heap.size w w')))
    (w : World) (HB : Hid (Below w0.heap.size w0 w)) (k0 : w.cell? ⟨b, off, none⟩ = some (.int .u8 2)) (k2 : w.cell? ⟨b, off + 2, none⟩ = some (.slice ua subs.length uc)) :
    Calls Try.prog 26 #[.pointer (some ⟨b, off, none⟩)] w fun e w' => RetRow w.heap.size (lens (.node 2 set subs mn mx)) e w' ∧ Hid (Below w.heap.size w w') := by
  have HL := hid (show lens (.node 2 set subs mn mx) = lensC [0] subs by simp [lens])
  have ln := cell_lt' k0
  have kk2 : (w.alloc (.cells #[.int .i64 0] 3)).cell? ⟨b, off + 2, none⟩ = some (.slice ua subs.length uc) := by
    rw [((Below.refl w.heap.size w).alloc (Nat.le_refl _) _).cell (p := ⟨b, off + 2, none⟩) ln]; exact k2
  go_enter Try.func26, Try.ntmps26
  go_wp2_with fail
  go_loopw [3, 40] (fun v i wr => ∃ (k : Nat) (a : Option Addr) (S : List Int) (c : Nat), k ≤ subs.length ∧ i = .int .i64 k ∧ v = .slice a S.length c ∧ S.length ≤ 256 ∧ S.length ≤ c ∧ Hid (CatS subs k S) ∧ Hid (IntRow .i64 wr a S) ∧ Hid (a = none → S = [] ∧ c = 0) ∧ Hid (∀ x, a = some x → w.heap.size ≤ x.block) ∧ Hid (Below w.heap.size w wr)) (fun _ i _ => subs.length - (intOf i).toNat)
  case atStart =>
    obtain ⟨a, c, e, l, I, N, K⟩ := retRow_one w 0
    injection e with e
    exact ⟨0, a, [0], c, Nat.zero_le _, rfl, e, by simp, l, ⟨rfl, HF.out, 0, by simp, upto_zero 0⟩, I, N, K, (Below.refl _ _).alloc (Nat.le_refl _) _⟩
  case round =>
    obtain ⟨k, a, S, c, hk, rfl, rfl, hS, hSc, HC, IS, NS, KS, HB1⟩ := hrel
    by_cases hlt : k < subs.length
    · obtain ⟨ub, uo, rfl, hc⟩ := HP.out (by omega)
      have C0 := hid (below_next HB.out HB1.out)
      have c0 : wr.cell? ⟨ub, uo + k, none⟩ = some (.pointer (ps k)) := by
        have := hc k hlt
        rw [C0.out.cell (p := ⟨ub, uo + k, none⟩) (cell_lt' this)]; exact this
      clear hc
      obtain ⟨⟨f1, f2, f3⟩, HN0, p, hp1, hp2⟩ := catS_next HC.out hlt
      have HN := hid HN0
      have HP1 := hid hp1
      have HP2 := hid (small_le HS.out hp2)
      have F3 := hid f3
      clear HN0 hp1 hp2 f3
      go_wp2_with fail
      refine (HI.out k hlt (hid f1) wr C0).mono ?_
      rintro e w1 ⟨⟨a1, c1, rfl, l1, I1, N1, K1⟩, B1⟩
      have HB2 := hid (below_next HB1.out B1.out)
      have IS' := hid (IS.out.below B1.out)
      go_wp2_with fail
      refine (sumset_any a a1 c c1 S (lens (kid subs k)) p (raw (kid subs k)) w1 hS f2 HP1 (lens_ok _).2 (lens_ok _).1 HP2 IS' I1).mono ?_
      rintro e w2 ⟨⟨a2, c2, rfl, l2, I2, N2, K2⟩, B2⟩
      have HB3 := hid (below_next HB2.out B2.out)
      have K2' : Hid (∀ x, a2 = some x → w.heap.size ≤ x.block) := fun x hx => Nat.le_trans HB2.out.size (K2.out x hx)
      go_wp2_with fail
      go_roundw
      case rel => exact ⟨k + 1, a2, _, c2, hlt, by go_num, rfl, F3.out, l2, HN, I2, N2, K2', HB3⟩
      case measure => simp [intOf]; omega
    · have HE := hid (show S = lensC [0] subs by
        have := HC.out.1
        rw [List.drop_of_length_le (by omega)] at this
        exact this)
      go_wp2_with fail
      go_ret
      rw [HL.out, ← HE.out]
      exact ⟨⟨a, c, rfl, hSc, IS, NS, KS⟩, HB1⟩

set_option maxHeartbeats 2000000 in
theorem ls_alt {w0 : World} {b off : Nat} {op : Int} (e3 : op = 3 ∨ op = 10) {set : List (Int × Int)} {subs : List Tr} {mn mx : Int} {ua : Option Addr} {uc : Nat} {ps : Nat → Option Addr} (hl : subs.length ≤ 131072)
    (HP : Hid (0 < subs.length → ∃ ub uo, ua = some ⟨ub, uo, none⟩ ∧ ∀ i, i < subs.length → w0.cell? ⟨ub, uo + i, none⟩ = some (.pointer (ps i)))) (HF : Hid (fitsA subs))
    (HI : Hid (∀ i, i < subs.length → Hid (fits (kid subs i)) → ∀ w, Hid (Below w0.heap.size w0 w) → Calls Try.prog 26 #[.pointer (ps i)] w fun e w' => RetRow w.heap.size (lens (kid subs i)) e w' ∧ Hid (Below w.heap.size w w')))
    (w : World) (HB : Hid (Below w0.heap.size w0 w)) (k0 : w.cell? ⟨b, off, none⟩ = some (.int .u8 op)) (k2 : w.cell? ⟨b, off + 2, none⟩ = some (.slice ua subs.length uc)) :
    Calls Try.prog 26 #[.pointer (some ⟨b, off, none⟩)] w fun e w' => RetRow w.heap.size (lens (.node op set subs mn mx)) e w' ∧ Hid (Below w.heap.size w w') := by
  have HL := hid (show lens (.node op set subs mn mx) = uniq (lensA subs) by rcases e3 with rfl | rfl <;> simp [lens])
  rcases e3 with rfl | rfl
  all_goals
    go_enter Try.func26, Try.ntmps26
    go_wp2_with fail
    go_loopw [6, 58] (fun v i wr => ∃ (k : Nat) (zs : List Int), k ≤ subs.length ∧ i = .int .i64 k ∧ zs.length ≤ k * 256 ∧ Hid (zs ++ lensA (subs.drop k) = lensA subs) ∧ Hid (fitsA (subs.drop k)) ∧ Hid (wr.ownsRow w.heap.size 3 1 v zs.length (zs.map (Value.int .i64))) ∧ Hid (Below w.heap.size w wr)) (fun _ i _ => subs.length - (intOf i).toNat)
    case atStart => exact ⟨0, [], Nat.zero_le _, rfl, by simp, rfl, HF, World.ownsRow_nil _ _ _ _, Below.refl _ _⟩
    case round =>
      obtain ⟨k, zs, hk, rfl, hzl, HZ, HFk, HO, HB1⟩ := hrel
      by_cases hlt : k < subs.length
      · obtain ⟨ub, uo, rfl, hc⟩ := HP.out (by omega)
        have C0 := hid (below_next HB.out HB1.out)
        have c0 : wr.cell? ⟨ub, uo + k, none⟩ = some (.pointer (ps k)) := by
          have := hc k hlt
          rw [C0.out.cell (p := ⟨ub, uo + k, none⟩) (cell_lt' this)]; exact this
        clear hc
        have HFk' := HFk.out
        rw [fitsA_drop hlt] at HFk'
        obtain ⟨f1, f2, f3⟩ := HFk'
        have F3 := hid f3
        have HZ' := hid (show (zs ++ lens (kid subs k)) ++ lensA (subs.drop (k + 1)) = lensA subs by rw [List.append_assoc, ← lensA_drop hlt]; exact HZ.out)
        clear f3
        obtain ⟨L, hLq⟩ : ∃ L, L = lens (kid subs k) := ⟨_, rfl⟩
        have HIk := HI.out k hlt (hid f1) wr C0
        rw [← hLq] at f2 HZ' HIk
        clear hLq
        go_wp2_with fail
        refine HIk.mono ?_
        rintro e w1 ⟨⟨a1, c1, rfl, l1, I1, N1, K1⟩, B1⟩
        have HB2 := hid (below_next HB1.out B1.out)
        have HO1 := hid (own_bel HO.out B1.out)
        have hwz := HB2.out.size
        clear HIk
        go_wp2_with (at_builtin; refine wpList_append_ints rfl (.tmp 62) (.tmp 64) rfl w.heap.size _ zs rfl HO1.out a1 c1 L rfl I1.out N1.out (by omega) hwz ?_; intro v1 w3 hown1 hgrow1 hloc1)
        refine ⟨⟨k + 1, zs ++ L, hlt, by simp, by simp; omega, HZ', F3, hown1, ?_⟩, by simp [intOf]; omega⟩
        exact below_push HB2.out HO1.out hgrow1 hwz
      · have HE := hid (show zs = lensA subs by
          have := HZ.out
          rw [List.drop_of_length_le (by omega)] at this
          simpa [lensA] using this)
        obtain ⟨ar, cr, er, lr, IR, _, _⟩ := retRow_own HO.out
        injection er with er
        subst er
        have hzz : zs.length ≤ 100000000 := by omega
        go_wp2_with fail
        refine (sortUnique_any ar cr zs wr hzz lr IR).mono ?_
        rintro e w1 ⟨⟨a, c, rfl, l1, R1, R2, R3⟩, B1⟩
        have B2 := hid (below_next HB1.out B1.out)
        have R3' : Hid (∀ x, a = some x → w.heap.size ≤ x.block) := fun x hx => Nat.le_trans HB1.out.size (R3.out x hx)
        go_wp2_with fail
        go_ret
        rw [HL.out, ← HE.out]
        exact ⟨⟨a, c, rfl, l1, R1, R2, R3'⟩, B2⟩
theorem intRow_zero (w : World) : IntRow .i64 (w.alloc (.cells #[.int .i64 0] 3)) (some ⟨w.heap.size, 0, none⟩) [0] := by
  obtain ⟨a, c, e, l, I, N, K⟩ := retRow_one w 0
  injection e with e
  injection e with e _ _
  rw [e]; exact I.out

set_option maxHeartbeats 4000000 in
theorem ls_rep {w0 : World} {b off : Nat} {set : List (Int × Int)} {subs : List Tr} {mn : Int} {m : Nat} (hm : m ≤ 65536) {ua : Option Addr} {uc : Nat} {ps : Nat → Option Addr} (hne : 0 < subs.length)
    (b3 : -9223372036854775808 ≤ mn ∧ mn ≤ 9223372036854775807)
    (HP : Hid (0 < subs.length → ∃ ub uo, ua = some ⟨ub, uo, none⟩ ∧ ∀ i, i < subs.length → w0.cell? ⟨ub, uo + i, none⟩ = some (.pointer (ps i)))) (f1 : fits (kid subs 0)) (hL : (lens (kid subs 0)).length ≤ 256) (HK : Hid (∀ j, j ≤ m + 1 → (kfold (lens (kid subs 0)) j).length ≤ 256)) (HS : Hid (small ((m + 1) * raw (kid subs 0))))
    (HI : Hid (fits (kid subs 0)) → ∀ w, Hid (Below w0.heap.size w0 w) → Calls Try.prog 26 #[.pointer (ps 0)] w fun e w' => RetRow w.heap.size (lens (kid subs 0)) e w' ∧ Hid (Below w.heap.size w w'))
    (w : World) (HB : Hid (Below w0.heap.size w0 w)) (k0 : w.cell? ⟨b, off, none⟩ = some (.int .u8 4)) (k2 : w.cell? ⟨b, off + 2, none⟩ = some (.slice ua subs.length uc)) (k3 : w.cell? ⟨b, off + 3, none⟩ = some (.int .i64 mn)) (k4 : w.cell? ⟨b, off + 4, none⟩ = some (.int .i64 (m : Int))) :
    Calls Try.prog 26 #[.pointer (some ⟨b, off, none⟩)] w fun e w' => RetRow w.heap.size (lens (.node 4 set subs mn (m : Int))) e w' ∧ Hid (Below w.heap.size w w') := by
  have HL := hid (show lens (.node 4 set subs mn (m : Int)) = uniq (repAll mn (lens (kid subs 0)) (m + 1)) by
    obtain ⟨t, ts, rfl⟩ := List.exists_cons_of_length_pos hne
    rw [kid_zero]
    have : ¬ ((m : Int) < 0) := by omega
    simp [lens, lensH, this])
  have ln := cell_lt' k0
  obtain ⟨ub, uo, rfl, hc⟩ := HP.out hne
  have c0 : w.cell? ⟨ub, uo, none⟩ = some (.pointer (ps 0)) := by
    have := hc 0 hne
    rw [HB.out.cell (p := ⟨ub, uo, none⟩) (cell_lt' this)]; exact this
  clear hc
  have HU := hid (lens_ok (kid subs 0))
  have HI0 := HI (hid f1) w HB
  clear HI
  obtain ⟨q, hq⟩ : ∃ q, q = raw (kid subs 0) := ⟨_, rfl⟩
  obtain ⟨L, hLq⟩ : ∃ L, L = lens (kid subs 0) := ⟨_, rfl⟩
  rw [← hq] at HS HU
  rw [← hLq] at hL HK HL HI0 HU
  clear hq hLq f1
  go_enter Try.func26, Try.ntmps26
  go_wp2_with fail
  refine HI0.mono ?_
  rintro e w1 ⟨⟨a1, c1, rfl, l1, I1, N1, K1⟩, B1⟩
  clear HI0
  have hz1 := B1.out.size
  go_wp2_with fail
  go_loopw [10, 11, 12] (fun v s i wr => ∃ (k : Nat) (zs : List Int) (a : Option Addr) (S : List Int) (c : Nat), k ≤ m + 1 ∧ i = .int .i64 k ∧ s = .slice a S.length c ∧ S.length ≤ 256 ∧ zs.length ≤ k * 256 ∧ Hid (wr.ownsRow w1.heap.size 3 1 v zs.length (zs.map (Value.int .i64))) ∧ Hid (zs = repAll mn L k) ∧ Hid (k ≤ m → IntRow .i64 wr a S ∧ (a = none → S = [] ∧ c = 0) ∧ (∀ x, a = some x → v.ownBlock ≠ some x.block) ∧ S = kfold L k) ∧ Hid (Below w1.heap.size w1 wr)) (fun _ _ i _ => m + 1 - (intOf i).toNat)
  case atStart => exact ⟨0, [], _, [0], 1, Nat.zero_le _, rfl, rfl, by simp, by simp, World.ownsRow_nil _ _ _ _, rfl, fun _ => ⟨intRow_zero w1, fun h => (by cases h), fun x h => (by simp [Value.ownBlock]), rfl⟩, (Below.refl _ _).alloc (Nat.le_refl _) _⟩
  case round =>
    obtain ⟨k, zs, a, S, c, hk, rfl, rfl, hS, hzl, HO, HZ, HSk, HB1⟩ := hrel
    have D1 := hid (below_next B1.out HB1.out)
    have y3 : wr.cell? ⟨b, off + 3, none⟩ = some (.int .i64 mn) := by rw [D1.out.cell (p := ⟨b, off + 3, none⟩) ln]; exact k3
    have y4 : wr.cell? ⟨b, off + 4, none⟩ = some (.int .i64 (m : Int)) := by rw [D1.out.cell (p := ⟨b, off + 4, none⟩) ln]; exact k4
    by_cases hlt : k ≤ m
    · have hwz := HB1.out.size
      obtain ⟨is, ns, hd, hSe⟩ := HSk.out hlt
      have IS := hid is
      have NS := hid ns
      have HD := hid hd
      clear is ns hd
      have HUS := hid (show Upto (k * q) S by rw [hSe]; exact upto_kfold HU.out.2 k)
      have HSS := hid (show small (k * q + q) by
        have h3 : (k + 1) * q ≤ (m + 1) * q := Nat.mul_le_mul_right _ (by omega)
        rw [Nat.succ_mul] at h3
        exact small_le HS.out h3)
      have HNS := hid (show sumL S L = kfold L (k + 1) by rw [hSe]; rfl)
      have HNL := hid (show (sumL S L).length ≤ 256 by rw [hSe]; exact HK.out (k + 1) (by omega))
      have HRP := hid (show repAll mn L (k + 1) = zs ++ (if mn ≤ (k : Int) then S else []) by rw [hSe, HZ.out]; rfl)
      clear hSe
      by_cases hmn : mn ≤ (k : Int)
      · have HZN := hid (show zs ++ S = repAll mn L (k + 1) by rw [HRP.out, if_pos hmn])
        by_cases hkm : k < m
        · go_wp2_with (at_builtin; refine wpList_append_ints rfl (.tmp 98) (.tmp 99) rfl w1.heap.size _ zs rfl HO.out a c S rfl IS.out NS.out (by omega) hwz ?_; intro v1 w3 hown1 hgrow1 hloc1; (have B3 := hid (below_push HB1.out HO.out hgrow1 hwz)); (have z4 : w3.cell? ⟨b, off + 4, none⟩ = some (.int .i64 (m : Int)) := ((below_next B1.out B3.out).cell (p := ⟨b, off + 4, none⟩) ln).trans k4))
          have I3 := hid (IS.out.grown hgrow1 HD.out)
          have IL := hid (I1.out.below B3.out)
          have HO3 := hid hown1
          clear hown1 hgrow1 hloc1
          refine (sumset_any a a1 c c1 S L (k * q) q w3 hS hL HUS HU.out.2 HU.out.1 HSS I3 IL).mono ?_
          rintro e w4 ⟨⟨a4, c4, rfl, l4, I4, N4, K4⟩, B4⟩
          have HB4 := hid (below_next B3.out B4.out)
          have HO4 := hid (own_bel HO3.out B4.out)
          have HD4 : Hid (∀ x, a4 = some x → v1.ownBlock ≠ some x.block) := fun x hx he => by
            have h1 := K4.out x hx
            have h2 := (HO3.out.lt _ he).2
            omega
          go_wp2_with fail
          go_roundw
          case rel => exact ⟨k + 1, zs ++ S, a4, _, c4, by omega, by go_num, rfl, HNL.out, by simp; omega, HO4, HZN, fun _ => ⟨I4.out, N4.out, HD4.out, HNS.out⟩, HB4⟩
          case measure => simp [intOf]; omega
        · go_wp2_with (at_builtin; refine wpList_append_ints rfl (.tmp 98) (.tmp 99) rfl w1.heap.size _ zs rfl HO.out a c S rfl IS.out NS.out (by omega) hwz ?_; intro v1 w3 hown1 hgrow1 hloc1; (have B3 := hid (below_push HB1.out HO.out hgrow1 hwz)); (have z4 : w3.cell? ⟨b, off + 4, none⟩ = some (.int .i64 (m : Int)) := ((below_next B1.out B3.out).cell (p := ⟨b, off + 4, none⟩) ln).trans k4))
          refine ⟨⟨k + 1, zs ++ S, a, S, c, by omega, by simp, rfl, hS, by simp; omega, hown1, HZN, fun h => absurd h (by omega), B3⟩, by simp [intOf]; omega⟩
      · have HZN := hid (show zs = repAll mn L (k + 1) by rw [HRP.out, if_neg hmn, List.append_nil])
        by_cases hkm : k < m
        · have IL := hid (I1.out.below HB1.out)
          go_wp2_with fail
          refine (sumset_any a a1 c c1 S L (k * q) q wr hS hL HUS HU.out.2 HU.out.1 HSS IS IL).mono ?_
          rintro e w4 ⟨⟨a4, c4, rfl, l4, I4, N4, K4⟩, B4⟩
          have HB4 := hid (below_next HB1.out B4.out)
          have HO4 := hid (own_bel HO.out B4.out)
          have HD4 : Hid (∀ x, a4 = some x → u10.ownBlock ≠ some x.block) := fun x hx he => by
            have h1 := K4.out x hx
            have h2 := (HO.out.lt _ he).2
            omega
          go_wp2_with fail
          go_roundw
          case rel => exact ⟨k + 1, zs, a4, _, c4, by omega, by go_num, rfl, HNL.out, by omega, HO4, HZN, fun _ => ⟨I4.out, N4.out, HD4.out, HNS.out⟩, HB4⟩
          case measure => simp [intOf]; omega
        · go_wp2_with fail
          go_roundw
          case rel => exact ⟨k + 1, zs, a, S, c, by omega, by go_num, rfl, hS, by omega, HO, HZN, fun h => absurd h (by omega), HB1⟩
          case measure => simp [intOf]; omega
    · have hke : k = m + 1 := by omega
      have HE := hid (show zs = repAll mn L (m + 1) by rw [← hke]; exact HZ.out)
      obtain ⟨ar, cr, er, lr, IR, _, _⟩ := retRow_own HO.out
      injection er with er
      subst er
      have hzz : zs.length ≤ 100000000 := by omega
      clear hke
      go_wp2_with fail
      refine (sortUnique_any ar cr zs wr hzz lr IR).mono ?_
      rintro e w4 ⟨⟨a4, c4, rfl, l4, R1, R2, R3⟩, B4⟩
      have B5 := hid (below_next D1.out B4.out)
      have R3' : Hid (∀ x, a4 = some x → w.heap.size ≤ x.block) := fun x hx => Nat.le_trans D1.out.size (R3.out x hx)
      go_wp2_with fail
      go_ret
      rw [HL.out, ← HE.out]
      exact ⟨⟨a4, c4, rfl, l4, R1, R2, R3'⟩, B5⟩

set_option maxHeartbeats 2000000 in
theorem lensSet_any {w0 : World} {a : Option Addr} {t : Tr} (h : TreeAt w0 a t) : Hid (good true t) → Hid (refB t = false) → Hid (small (raw t)) → Hid (fits t) → ∀ w, Hid (Below w0.heap.size w0 w) →
    Calls Try.prog 26 #[.pointer a] w fun e w' => RetRow w.heap.size (lens t) e w' ∧ Hid (Below w.heap.size w w') := by
  induction h with
  | nil => intro hg; exact absurd hg.out (by unfold good; exact id)
  | node b off op mn mx set sa sc subs ua uc ps h0 h1 g h2 hn h3 h4 b0 b1 b2 b3 b4 hp hs ih =>
    intro hg hr hsm hf w HB
    have hg' := hg.out
    unfold good at hg'
    obtain ⟨_, _, hl, g5, g4, g4', gl⟩ := hg'
    have HP := hid hp
    have HI := hid (fun i hi => ih i hi (hid (goodL_get gl i hi)))
    have k0 : w.cell? ⟨b, off, none⟩ = some (.int .u8 op) := by rw [HB.out.cell (cell_lt' h0)]; exact h0
    have k2 : w.cell? ⟨b, off + 2, none⟩ = some (.slice ua subs.length uc) := by rw [HB.out.cell (cell_lt' h2)]; exact h2
    have k3 : w.cell? ⟨b, off + 3, none⟩ = some (.int .i64 mn) := by rw [HB.out.cell (cell_lt' h3)]; exact h3
    have k4 : w.cell? ⟨b, off + 4, none⟩ = some (.int .i64 mx) := by rw [HB.out.cell (cell_lt' h4)]; exact h4
    clear hp hs ih h0 h1 h2 h3 h4 gl g hn
    by_cases e1 : op = 1
    · subst e1
      have HL := hid (show lens (.node 1 set subs mn mx) = [1] by simp [lens])
      go_enter Try.func26, Try.ntmps26
      go_wp2_with fail
      go_ret
      rw [HL.out]
      exact ⟨retRow_one w 1, (Below.refl _ _).alloc (Nat.le_refl _) _⟩
    by_cases e6 : op = 6
    · subst e6
      exact absurd hr.out (by simp [refB])
    by_cases e2 : op = 2
    · subst e2
      have hr' : refL subs = false := by simpa [refB] using hr.out
      have hs' : small (rawS subs) := by simpa [raw] using hsm.out
      exact ls_concat hl HP (hid (by simpa [fits] using hf.out)) hs' (hid fun i hi hfi => HI.out i hi (refL_no hi hr') (small_le hs' (raw_le_rawS hi)) hfi) w HB k0 k2
    by_cases e3 : op = 3 ∨ op = 10
    · have hr' : refL subs = false := by rcases e3 with rfl | rfl <;> simpa [refB] using hr.out
      have hs' : small (rawM subs) := by rcases e3 with rfl | rfl <;> simpa [raw] using hsm.out
      have hf' : fitsA subs := by rcases e3 with rfl | rfl <;> simpa [fits] using hf.out
      exact ls_alt e3 hl HP hf' (hid fun i hi hfi => HI.out i hi (refL_no hi hr') (small_le hs' (raw_le_rawM hi)) hfi) w HB k0 k2
    by_cases e4 : op = 4
    · subst e4
      have m0 : ¬ mx < 0 := fun h => absurd hr.out (by simp [refB, h])
      have hne : 0 < subs.length := by
        rcases Nat.eq_zero_or_pos subs.length with h | h
        · exact absurd (g4 rfl (List.length_eq_zero_iff.1 h)).2 m0
        · exact h
      have hm1 := g4' rfl rfl
      obtain ⟨m, hm⟩ : ∃ m : Nat, mx = m := ⟨mx.toNat, by omega⟩
      subst hm
      have hr' : refB (kid subs 0) = false := by
        have := hr.out
        obtain ⟨t, ts, rfl⟩ := List.exists_cons_of_length_pos hne
        rw [kid_zero]
        simpa [refB, refH, m0] using this
      have hs' : small ((m + 1) * raw (kid subs 0)) := by
        have := hsm.out
        rw [← raw_head hne]
        simpa [raw, m0] using this
      have hf' : (fits (kid subs 0) ∧ (lens (kid subs 0)).length ≤ 256) ∧ ∀ j, j ≤ m + 1 → (kfold (lens (kid subs 0)) j).length ≤ 256 := by
        have := hf.out
        obtain ⟨t, ts, rfl⟩ := List.exists_cons_of_length_pos hne
        rw [kid_zero]
        simp only [fits, show ¬ ((4 : Int) = 2) by omega, show ¬ ((4 : Int) = 3 ∨ (4 : Int) = 10) by omega, if_false, if_true, fitsH, lensH, Int.toNat_natCast] at this
        exact this (by omega)
      have hsk : small (raw (kid subs 0)) := small_le hs' (by rw [Nat.succ_mul]; omega)
      exact ls_rep (by omega) hne b3 HP hf'.1.1 hf'.1.2 hf'.2 hs' (fun hfi => HI.out 0 hne hr' hsk hfi) w HB k0 k2 k3 k4
    by_cases e5 : op = 5 ∨ op = 9
    · have hne : 0 < subs.length := by
        rcases Nat.eq_zero_or_pos subs.length with h | h
        · exact absurd (List.length_eq_zero_iff.1 h) (g5 e5)
        · exact h
      obtain ⟨ub, uo, rfl, hc⟩ := HP.out hne
      have c0 : w.cell? ⟨ub, uo, none⟩ = some (.pointer (ps 0)) := by
        have := hc 0 hne
        rw [HB.out.cell (p := ⟨ub, uo, none⟩) (cell_lt' this)]; exact this
      clear hc
      have HR := hid (show refB (.node op set subs mn mx) = refB (kid subs 0) ∧ raw (.node op set subs mn mx) = raw (kid subs 0) ∧ lens (.node op set subs mn mx) = lens (kid subs 0) ∧ (fits (.node op set subs mn mx) → fits (kid subs 0)) by
        obtain ⟨t, ts, rfl⟩ := List.exists_cons_of_length_pos hne
        rw [kid_zero]; rcases e5 with rfl | rfl <;> simp [refB, refH, raw, rawH, lens, lensH, fits, fitsP])
      have HC := hid (HI.out 0 hne (by rw [← HR.out.1]; exact hr) (by rw [← HR.out.2.1]; exact hsm) (HR.out.2.2.2 hf.out) w HB)
      rw [HR.out.2.2.1]
      clear hr hsm hf HI
      rcases e5 with rfl | rfl
      all_goals
        go_enter Try.func26, Try.ntmps26
        go_wp2_with fail
        refine HC.out.mono ?_
        rintro e w1 ⟨⟨a1, c1, rfl, l1, I1, N1, K1⟩, B1⟩
        go_wp2_with fail
        go_ret
        exact ⟨⟨a1, c1, rfl, l1, I1, N1, K1⟩, B1⟩
    · have HL := hid (show lens (.node op set subs mn mx) = [0] by simp [lens, e1, e2, e3, e4, e5, e6])
      simp only [not_or] at e3 e5
      obtain ⟨e3, e10⟩ := e3
      obtain ⟨e5, e9⟩ := e5
      go_enter Try.func26, Try.ntmps26
      go_wp2_with fail
      go_ret
      rw [HL.out]
      exact ⟨retRow_one w 0, (Below.refl _ _).alloc (Nat.le_refl _) _⟩
end Go.Proofs.Qxb6605195a
