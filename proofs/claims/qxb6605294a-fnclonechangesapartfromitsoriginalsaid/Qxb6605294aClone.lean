import Derived.Test.Qxb6605294aBun
set_option maxRecDepth 100000
namespace Go.Proofs.Qxb6605294a
open Go.ChangeShapes Go.WideShapes Go.ChangeAt Go.RowKit
set_option linter.unusedVariables false

set_option maxHeartbeats 16000000 in
theorem clone_any (g n fb fn : Nat) (D : DU) (a0 a1 a2 a3 a5 a6 : Option Addr) (c0 c1 c2 c3 c5 c6 : Nat) (pss : List (List (Int × Int))) (hb co cb pb : List (List Int)) (pl : List Bool) (w : World) (hn : n ≤ 1048576) (hpl : pl.length ≤ 1048576) (hfn : fn ≤ 1048576) (hl1 : hb.length ≤ 1048576) (hl2 : co.length ≤ 1048576) (hl3 : cb.length ≤ 1048576) (hl5 : pb.length ≤ n) (ht0 : pss.flatten.length ≤ 1048576) (ht1 : hb.flatten.length ≤ 1048576) (ht2 : co.flatten.length ≤ 1048576) (ht3 : cb.flatten.length ≤ 1048576) (ht5 : Hid (∀ i, (pb.getD i []).length ≤ 1048576)) (HNn : Hid (n = pss.length))
    (g0 : w.cell? ⟨g, 0, none⟩ = some (.slice a0 n c0)) (g1 : w.cell? ⟨g, 1, none⟩ = some (.slice a1 hb.length c1)) (g2 : w.cell? ⟨g, 2, none⟩ = some (.slice a2 co.length c2)) (g3 : w.cell? ⟨g, 3, none⟩ = some (.slice a3 cb.length c3)) (g4 : w.cell? ⟨g, 4, none⟩ = some (.map (some fb))) (g5 : w.cell? ⟨g, 5, none⟩ = some (.slice a5 pb.length c5)) (g6 : w.cell? ⟨g, 6, none⟩ = some (.slice a6 pl.length c6))
    (R0 : Hid (HRow w a0 pss)) (R1 : Hid (LRow w a1 hb)) (R2 : Hid (LRow w a2 co)) (R3 : Hid (LRow w a3 cb)) (HF : Hid (FM w fb fn D)) (R5 : Hid (LRow w a5 pb)) (R6 : Hid (Row Value.bool false w a6 pl)) (N6 : Hid (a6 = none → pl = [] ∧ c6 = 0)) :
    Calls Try.prog 62 #[.pointer (some ⟨g, 0, none⟩)] w fun e w' => (∃ c, e = .returned (.pointer (some ⟨c, 0, none⟩)) ∧ Hid (CloneOf w' w.heap.size c pss hb co cb pb D pl)) ∧ Hid (Below w.heap.size w w') := by
  obtain ⟨i99, hi99, hz99, hy99, hx99⟩ := info_parts Try.info99
  obtain ⟨i22, hi22, hz22, hy22, hx22⟩ := info_parts Try.info22
  obtain ⟨i100, hi100, hz100, hy100, hx100⟩ := info_parts Try.info100
  obtain ⟨i4, hi4, hz4, hy4, hx4⟩ := info_parts Try.info4
  go_enter Try.func62, Try.ntmps62
  go_upto_region 2 with fail
  refine wp_cut (fun a' w' => ∃ u : Nat → Value, Below w.heap.size w w' ∧ V62 w.heap.size g n fb pl (.slice a6 pl.length c6) 23 (u 23) w' ∧ a' = ⟨#[.pointer (some ⟨g, 0, none⟩), undef, .pointer none, .int .i64 n, u 23, undef, undef, undef, undef, undef, undef, undef, undef, undef, .pointer (some ⟨g, 0, none⟩), .pointer (some ⟨g, 0, none⟩), .pointer (some ⟨g, 0, none⟩), .slice a0 n c0, .int .i64 n, u 0, u 1, u 2, u 3, u 4, u 5, u 6, u 7, u 8, u 9, u 10, u 11, u 12, u 13, u 14, u 15, u 16, u 17, u 18, u 19, u 20, u 21, u 22, undef, undef, undef, undef, undef, undef, undef, undef, undef, undef, undef, undef, undef, undef, undef, undef, undef, undef, undef, undef, undef, undef, undef, undef, undef, undef, undef, undef, undef, undef, undef, undef, undef, undef, undef, undef, undef, undef, undef, undef, undef, undef, undef, undef, undef, undef, undef, undef, undef, undef, undef, undef, undef, undef, undef, undef, undef, undef, undef, undef, undef, undef, undef, undef, undef, undef, undef, undef, undef, undef, undef, undef, undef, undef, undef, undef, undef, undef, undef, undef, undef, undef, undef, undef, undef, undef, undef, undef, undef, undef, undef, undef, undef, undef, undef, undef, undef, undef, undef, undef], []⟩) ?_ ?_
  case refine_2 =>
    intro J K' hJ hK'
    refine region_vals (by kernel_rfl) (by kernel_rfl) (fun u => ⟨#[.pointer (some ⟨g, 0, none⟩), undef, .pointer none, .int .i64 n, u 23, undef, undef, undef, undef, undef, undef, undef, undef, undef, .pointer (some ⟨g, 0, none⟩), .pointer (some ⟨g, 0, none⟩), .pointer (some ⟨g, 0, none⟩), .slice a0 n c0, .int .i64 n, u 0, u 1, u 2, u 3, u 4, u 5, u 6, u 7, u 8, u 9, u 10, u 11, u 12, u 13, u 14, u 15, u 16, u 17, u 18, u 19, u 20, u 21, u 22, undef, undef, undef, undef, undef, undef, undef, undef, undef, undef, undef, undef, undef, undef, undef, undef, undef, undef, undef, undef, undef, undef, undef, undef, undef, undef, undef, undef, undef, undef, undef, undef, undef, undef, undef, undef, undef, undef, undef, undef, undef, undef, undef, undef, undef, undef, undef, undef, undef, undef, undef, undef, undef, undef, undef, undef, undef, undef, undef, undef, undef, undef, undef, undef, undef, undef, undef, undef, undef, undef, undef, undef, undef, undef, undef, undef, undef, undef, undef, undef, undef, undef, undef, undef, undef, undef, undef, undef, undef, undef, undef, undef, undef, undef, undef, undef, undef, undef, undef, undef], []⟩) (fun _ => undef) rfl (V62 w.heap.size g n fb pl (.slice a6 pl.length c6)) blkV V62_below
      (fun i hi u v => match i, hi with
      | 0, _ => rfl
      | 1, _ => rfl
      | 2, _ => rfl
      | 3, _ => rfl
      | 4, _ => rfl
      | 5, _ => rfl
      | 6, _ => rfl
      | 7, _ => rfl
      | 8, _ => rfl
      | 9, _ => rfl
      | 10, _ => rfl
      | 11, _ => rfl
      | 12, _ => rfl
      | 13, _ => rfl
      | 14, _ => rfl
      | 15, _ => rfl
      | 16, _ => rfl
      | 17, _ => rfl
      | 18, _ => rfl
      | 19, _ => rfl
      | 20, _ => rfl
      | 21, _ => rfl
      | 22, _ => rfl
      | 23, _ => rfl
      | i + 24, h => absurd h (by simp))
      ?_ (fun u w' hb hg => hK' _ _ (Met.intro (hJ _ _ ⟨u, hb, hg.1 23 (by decide), rfl⟩)))
    clear hK' hJ
    intro i o ho u w' hB hd hdis K hK
    match i, ho with
    | 0, ho =>
        cases ho
        exact step_value rfl (v := .int .i64 n) (w' := w') (by go_simp) (hK _ _ (Below.refl _ _) (by first | rfl | exact ⟨_, rfl⟩) (fun b hb => absurd hb (blkV_no (by decide))))
      | 1, ho =>
        cases ho
        have h0 : u 0 = .int .i64 n := hd 0 (of_decide_eq_true (by kernel_rfl))
        obtain ⟨w4, hmake, hown, hgrow⟩ := run_make_full (P := Try.prog) w' w'.heap.size 94 99 i99 (.slice none 0 0) 1 Try.underlying94 hi99 hz99 hy99 .i64 .i64 n (by rw [hx99]; omega) (by unfold maxLen; omega) (Nat.le_refl _)
        have B4 : Below w'.heap.size w' w4 := (Below.refl _ _).grown hgrow (Nat.le_refl _) (by simp)
        have R4 := rowIs_zero rfl hown
        have L4 := R4.lt
        exact step_value rfl (v := .slice (some ⟨w'.heap.size, 0, none⟩) n n) (w' := w4) (by clear hown hgrow; go_simp) (hK _ _ B4 ⟨_, rfl, hB.size, R4⟩ (fun b hb => by have := hb.2; simp only [blkOf] at this; subst this; exact ⟨Nat.le_refl _, L4⟩))
      | 2, ho =>
        cases ho
        exact step_value rfl (v := .pointer (some ⟨g, 0, none⟩)) (w' := w') (by go_simp) (hK _ _ (Below.refl _ _) (by first | rfl | exact ⟨_, rfl⟩) (fun b hb => absurd hb (blkV_no (by decide))))
      | 3, ho =>
        cases ho
        have h2 : u 2 = .pointer (some ⟨g, 0, none⟩) := hd 2 (of_decide_eq_true (by kernel_rfl))
        exact step_value rfl (v := .pointer (some ⟨g, 0, none⟩)) (w' := w') (by go_simp) (hK _ _ (Below.refl _ _) (by first | rfl | exact ⟨_, rfl⟩) (fun b hb => absurd hb (blkV_no (by decide))))
      | 4, ho =>
        cases ho
        have h3 : u 3 = .pointer (some ⟨g, 0, none⟩) := hd 3 (of_decide_eq_true (by kernel_rfl))
        exact step_value rfl (v := .pointer (some ⟨g, 4, none⟩)) (w' := w') (by go_simp) (hK _ _ (Below.refl _ _) (by first | rfl | exact ⟨_, rfl⟩) (fun b hb => absurd hb (blkV_no (by decide))))
      | 5, ho =>
        cases ho
        have h4 : u 4 = .pointer (some ⟨g, 4, none⟩) := hd 4 (of_decide_eq_true (by kernel_rfl))
        have c4 : w'.cell? ⟨g, 4, none⟩ = some (.map (some fb)) := (hB.cell (p := ⟨g, 4, none⟩) (cell_lt' g4)).trans g4
        exact step_value rfl (v := .map (some fb)) (w' := w') (by go_simp) (hK _ _ (Below.refl _ _) (by first | rfl | exact ⟨_, rfl⟩) (fun b hb => absurd hb (blkV_no (by decide))))
      | 6, ho =>
        cases ho
        have h5 : u 5 = .map (some fb) := hd 5 (of_decide_eq_true (by kernel_rfl))
        have hl := (HF.out.below hB).len Try.underlying75
        exact step_value rfl (v := .int .i64 (Maps.size D)) (w' := w') (by go_simp) (hK _ _ (Below.refl _ _) ⟨_, rfl⟩ (fun b hb => absurd hb (blkV_no (by decide))))
      | 7, ho =>
        cases ho
        obtain ⟨k, h6⟩ : ∃ k : Int, u 6 = .int .i64 k := hd 6 (of_decide_eq_true (by kernel_rfl))
        have hmk := mk75 k w'
        have M1 : FM (w'.alloc (.map #[] 0)) w'.heap.size 0 (.map []) := World.ownsMap_made w' Try.prog 73 (plainElem (H := Unit) Try.prog 3)
        exact step_value rfl (v := .map (some w'.heap.size)) (w' := w'.alloc (.map #[] 0)) (by go_simp) (hK _ _ ((Below.refl _ _).alloc (Nat.le_refl _) _) ⟨_, rfl, hB.size, M1⟩ (fun b hb => by have := hb.2; simp only [blkOf] at this; subst this; exact ⟨Nat.le_refl _, M1.lt⟩))
      | 8, ho =>
        cases ho
        exact step_value rfl (v := .int .i64 n) (w' := w') (by go_simp) (hK _ _ (Below.refl _ _) (by first | rfl | exact ⟨_, rfl⟩) (fun b hb => absurd hb (blkV_no (by decide))))
      | 9, ho =>
        cases ho
        have h8 : u 8 = .int .i64 n := hd 8 (of_decide_eq_true (by kernel_rfl))
        obtain ⟨w4, hmake, hown, hgrow⟩ := run_make_full (P := Try.prog) w' w'.heap.size 23 22 i22 (.slice none 0 0) 1 Try.underlying23 hi22 hz22 hy22 .i64 .i64 n (by rw [hx22]; omega) (by unfold maxLen; omega) (Nat.le_refl _)
        have B4 : Below w'.heap.size w' w4 := (Below.refl _ _).grown hgrow (Nat.le_refl _) (by simp)
        have R4 := rowIs_zero rfl hown
        have L4 := R4.lt
        exact step_value rfl (v := .slice (some ⟨w'.heap.size, 0, none⟩) n n) (w' := w4) (by clear hown hgrow; go_simp) (hK _ _ B4 ⟨_, rfl, hB.size, R4⟩ (fun b hb => by have := hb.2; simp only [blkOf] at this; subst this; exact ⟨Nat.le_refl _, L4⟩))
      | 10, ho =>
        cases ho
        exact step_value rfl (v := .pointer (some ⟨g, 0, none⟩)) (w' := w') (by go_simp) (hK _ _ (Below.refl _ _) (by first | rfl | exact ⟨_, rfl⟩) (fun b hb => absurd hb (blkV_no (by decide))))
      | 11, ho =>
        cases ho
        have h10 : u 10 = .pointer (some ⟨g, 0, none⟩) := hd 10 (of_decide_eq_true (by kernel_rfl))
        exact step_value rfl (v := .pointer (some ⟨g, 0, none⟩)) (w' := w') (by go_simp) (hK _ _ (Below.refl _ _) (by first | rfl | exact ⟨_, rfl⟩) (fun b hb => absurd hb (blkV_no (by decide))))
      | 12, ho =>
        cases ho
        have h11 : u 11 = .pointer (some ⟨g, 0, none⟩) := hd 11 (of_decide_eq_true (by kernel_rfl))
        exact step_value rfl (v := .pointer (some ⟨g, 6, none⟩)) (w' := w') (by go_simp) (hK _ _ (Below.refl _ _) (by first | rfl | exact ⟨_, rfl⟩) (fun b hb => absurd hb (blkV_no (by decide))))
      | 13, ho =>
        cases ho
        have h12 : u 12 = .pointer (some ⟨g, 6, none⟩) := hd 12 (of_decide_eq_true (by kernel_rfl))
        have q6 : w'.cell? ⟨g, 6, none⟩ = some (.slice a6 pl.length c6) := (hB.cell (p := ⟨g, 6, none⟩) (cell_lt' g6)).trans g6
        exact step_value rfl (v := .slice a6 pl.length c6) (w' := w') (by go_simp) (hK _ _ (Below.refl _ _) (by first | rfl | exact ⟨_, rfl⟩) (fun b hb => absurd hb (blkV_no (by decide))))
      | 14, ho =>
        cases ho
        have h13 : u 13 = .slice a6 pl.length c6 := hd 13 (of_decide_eq_true (by kernel_rfl))
        refine step_enter rfl (f := 66) (args := #[.slice a6 pl.length c6]) (by go_simp) (sclone4_own a6 c6 pl w' (by omega) (hid (R6.out.below hB)) N6) ?_
        rintro e w1 ⟨⟨v, rfl, HO⟩, B1⟩
        refine ⟨v, rfl, hK _ _ B1.out (own_mono HO.out hB.size) (fun b hb => ?_)⟩
        have hb := hb.2
        obtain ⟨_, ⟨hv, _⟩ | ⟨g', cap, cur, hv, hg, hh, _⟩⟩ := HO.out
        · subst hv; exact absurd hb (by simp [blkOf])
        · subst hv; simp only [blkOf] at hb; subst hb; exact ⟨hg, (Array.getElem?_eq_some_iff.1 hh).1⟩
      | 15, ho =>
        cases ho
        exact step_value rfl (v := .int .i64 n) (w' := w') (by go_simp) (hK _ _ (Below.refl _ _) (by first | rfl | exact ⟨_, rfl⟩) (fun b hb => absurd hb (blkV_no (by decide))))
      | 16, ho =>
        cases ho
        have h15 : u 15 = .int .i64 n := hd 15 (of_decide_eq_true (by kernel_rfl))
        obtain ⟨w4, hmake, hown, hgrow⟩ := run_make_full (P := Try.prog) w' w'.heap.size 95 100 i100 (.int .i64 0) 1 Try.underlying95 hi100 hz100 hy100 .i64 .i64 n (by rw [hx100]; omega) (by unfold maxLen; omega) (Nat.le_refl _)
        have B4 : Below w'.heap.size w' w4 := (Below.refl _ _).grown hgrow (Nat.le_refl _) (by simp)
        have R4 := rowIs_zero rfl hown
        have L4 := R4.lt
        exact step_value rfl (v := .slice (some ⟨w'.heap.size, 0, none⟩) n n) (w' := w4) (by clear hown hgrow; go_simp) (hK _ _ B4 ⟨_, rfl, hB.size, R4⟩ (fun b hb => by have := hb.2; simp only [blkOf] at this; subst this; exact ⟨Nat.le_refl _, L4⟩))
      | 17, ho =>
        cases ho
        exact step_value rfl (v := .int .i64 n) (w' := w') (by go_simp) (hK _ _ (Below.refl _ _) (by first | rfl | exact ⟨_, rfl⟩) (fun b hb => absurd hb (blkV_no (by decide))))
      | 18, ho =>
        cases ho
        have h17 : u 17 = .int .i64 n := hd 17 (of_decide_eq_true (by kernel_rfl))
        obtain ⟨w4, hmake, hown, hgrow⟩ := run_make_full (P := Try.prog) w' w'.heap.size 37 4 i4 (.bool false) 1 Try.underlying37 hi4 hz4 hy4 .i64 .i64 n (by rw [hx4]; omega) (by unfold maxLen; omega) (Nat.le_refl _)
        have B4 : Below w'.heap.size w' w4 := (Below.refl _ _).grown hgrow (Nat.le_refl _) (by simp)
        have R4 := rowIs_zero rfl hown
        have L4 := R4.lt
        exact step_value rfl (v := .slice (some ⟨w'.heap.size, 0, none⟩) n n) (w' := w4) (by clear hown hgrow; go_simp) (hK _ _ B4 ⟨_, rfl, hB.size, R4⟩ (fun b hb => by have := hb.2; simp only [blkOf] at this; subst this; exact ⟨Nat.le_refl _, L4⟩))
      | 19, ho =>
        cases ho
        exact step_value rfl (v := .int .i64 n) (w' := w') (by go_simp) (hK _ _ (Below.refl _ _) (by first | rfl | exact ⟨_, rfl⟩) (fun b hb => absurd hb (blkV_no (by decide))))
      | 20, ho =>
        cases ho
        have h19 : u 19 = .int .i64 n := hd 19 (of_decide_eq_true (by kernel_rfl))
        refine step_enter rfl (f := 67) (args := #[.int .i64 n]) (by go_simp) (region_tag n w' (by omega)) ?_
        rintro e w1 ⟨⟨rb, rfl, HR⟩, B1⟩
        exact ⟨_, rfl, hK _ _ B1.out ⟨rb, rfl, HR.out.mono hB.size⟩ (fun b hb => absurd hb (blkV_no (by decide)))⟩
      | 21, ho =>
        cases ho
        obtain ⟨h, h1, b1, r1⟩ : ∃ b, u 1 = .slice (some ⟨b, 0, none⟩) n n ∧ w.heap.size ≤ b ∧ w'.rowIs b 99 n (fun _ => .slice none 0 0) := hd 1 (of_decide_eq_true (by kernel_rfl))
        obtain ⟨F, h7, b7, r7⟩ : ∃ b, u 7 = .map (some b) ∧ w.heap.size ≤ b ∧ FM w' b 0 (.map []) := hd 7 (of_decide_eq_true (by kernel_rfl))
        obtain ⟨p, h9, b9, r9⟩ : ∃ b, u 9 = .slice (some ⟨b, 0, none⟩) n n ∧ w.heap.size ≤ b ∧ w'.rowIs b 22 n (fun _ => .slice none 0 0) := hd 9 (of_decide_eq_true (by kernel_rfl))
        have h14 : w'.ownsRow w.heap.size 4 1 (u 14) pl.length (pl.map Value.bool) := hd 14 (of_decide_eq_true (by kernel_rfl))
        obtain ⟨P, h16, b16, r16⟩ : ∃ b, u 16 = .slice (some ⟨b, 0, none⟩) n n ∧ w.heap.size ≤ b ∧ w'.rowIs b 100 n (fun _ => .int .i64 0) := hd 16 (of_decide_eq_true (by kernel_rfl))
        obtain ⟨q, h18, b18, r18⟩ : ∃ b, u 18 = .slice (some ⟨b, 0, none⟩) n n ∧ w.heap.size ≤ b ∧ w'.rowIs b 4 n (fun _ => .bool false) := hd 18 (of_decide_eq_true (by kernel_rfl))
        obtain ⟨rb, h20, r20⟩ : ∃ rb, u 20 = .pointer (some ⟨rb, 0, none⟩) ∧ RegT w' w.heap.size rb n := hd 20 (of_decide_eq_true (by kernel_rfl))
        obtain ⟨a14, d14, hv6⟩ := own_slice h14
        have n6 : ∀ b, (Value.slice a14 pl.length d14).ownBlock = some b → b ≠ h ∧ b ≠ F ∧ b ≠ p ∧ b ≠ P ∧ b ≠ q := fun b hb => by
          have hb14 : blkV 14 (u 14) b := ⟨by decide, by rw [hv6]; exact blkOf_own hb⟩
          refine ⟨fun e => ?_, fun e => ?_, fun e => ?_, fun e => ?_, fun e => ?_⟩ <;> subst e
          · exact hdis 14 1 b (of_decide_eq_true (by kernel_rfl)) (of_decide_eq_true (by kernel_rfl)) (by decide) hb14 ⟨by decide, by rw [h1]; rfl⟩
          · exact hdis 14 7 b (of_decide_eq_true (by kernel_rfl)) (of_decide_eq_true (by kernel_rfl)) (by decide) hb14 ⟨by decide, by rw [h7]; rfl⟩
          · exact hdis 14 9 b (of_decide_eq_true (by kernel_rfl)) (of_decide_eq_true (by kernel_rfl)) (by decide) hb14 ⟨by decide, by rw [h9]; rfl⟩
          · exact hdis 14 16 b (of_decide_eq_true (by kernel_rfl)) (of_decide_eq_true (by kernel_rfl)) (by decide) hb14 ⟨by decide, by rw [h16]; rfl⟩
          · exact hdis 14 18 b (of_decide_eq_true (by kernel_rfl)) (of_decide_eq_true (by kernel_rfl)) (by decide) hb14 ⟨by decide, by rw [h18]; rfl⟩
        rw [hv6] at h14
        clear hdis
        exact step_value rfl (v := .agg #[.slice (some ⟨h, 0, none⟩) n n, .slice none 0 0, .slice none 0 0, .slice none 0 0, .map (some F), .slice (some ⟨p, 0, none⟩) n n, .slice a14 pl.length d14, .slice (some ⟨P, 0, none⟩) n n, .slice (some ⟨q, 0, none⟩) n n, .pointer (some ⟨rb, 0, none⟩)]) (w' := w') (by clear n6 r1 r7 r9 r16 r18 r20 h14; go_simp) (hK _ _ (Below.refl _ _) ⟨h, F, p, P, q, rb, .slice a14 pl.length d14, rfl, b1, b7, b9, b16, b18, r1, r7, r9, h14, r16, r18, r20, n6⟩ (fun b hb => absurd hb (blkV_no (by decide))))
      | 22, ho =>
        cases ho
        obtain ⟨h, F, p, P, q, rb, v6, h21, PP⟩ : ∃ h F p P q rb v6, u 21 = .agg #[.slice (some ⟨h, 0, none⟩) n n, .slice none 0 0, .slice none 0 0, .slice none 0 0, .map (some F), .slice (some ⟨p, 0, none⟩) n n, v6, .slice (some ⟨P, 0, none⟩) n n, .slice (some ⟨q, 0, none⟩) n n, .pointer (some ⟨rb, 0, none⟩)] ∧ Parts w' w.heap.size n pl h F p P q rb v6 := hd 21 (of_decide_eq_true (by kernel_rfl))
        have RC := World.rowIs_alloc w' #[.slice (some ⟨h, 0, none⟩) n n, .slice none 0 0, .slice none 0 0, .slice none 0 0, .map (some F), .slice (some ⟨p, 0, none⟩) n n, v6, .slice (some ⟨P, 0, none⟩) n n, .slice (some ⟨q, 0, none⟩) n n, .pointer (some ⟨rb, 0, none⟩)] 98 (gf (.slice (some ⟨h, 0, none⟩) n n) (.slice none 0 0) (.slice none 0 0) (.slice none 0 0) (.map (some F)) (.slice (some ⟨p, 0, none⟩) n n) v6 (.slice (some ⟨P, 0, none⟩) n n) (.slice (some ⟨q, 0, none⟩) n n) (.pointer (some ⟨rb, 0, none⟩))) (fun i hi => arr_getD hi)
        have BA := (Below.refl w'.heap.size w').alloc (Nat.le_refl _) (Obj.cells #[.slice (some ⟨h, 0, none⟩) n n, .slice none 0 0, .slice none 0 0, .slice none 0 0, .map (some F), .slice (some ⟨p, 0, none⟩) n n, v6, .slice (some ⟨P, 0, none⟩) n n, .slice (some ⟨q, 0, none⟩) n n, .pointer (some ⟨rb, 0, none⟩)] 98)
        refine step_value rfl (v := .pointer (some ⟨w'.heap.size, 0, none⟩)) (w' := w'.alloc (Obj.cells #[.slice (some ⟨h, 0, none⟩) n n, .slice none 0 0, .slice none 0 0, .slice none 0 0, .map (some F), .slice (some ⟨p, 0, none⟩) n n, v6, .slice (some ⟨P, 0, none⟩) n n, .slice (some ⟨q, 0, none⟩) n n, .pointer (some ⟨rb, 0, none⟩)] 98)) (by clear RC BA PP; go_simp) (hK _ _ BA ⟨w'.heap.size, h, F, p, P, q, rb, v6, rfl, hB.size, RC, PP.below BA, fun b hb => ?_⟩ (fun b hb => absurd hb (blkV_no (by decide))))
        have := own_lt PP.r6 hb
        omega
      | 23, ho =>
        cases ho
        have h22 : V62 w.heap.size g n fb pl (.slice a6 pl.length c6) 22 (u 22) w' := hd 22 (of_decide_eq_true (by kernel_rfl))
        exact step_value rfl (v := u 22) (w' := w') (by clear h22; go_simp) (hK _ _ (Below.refl _ _) h22 (fun b hb => absurd hb (blkV_no (by decide))))
      | i + 24, ho => exact absurd ho (by simp)
  clear hi99 hz99 hy99 hx99 i99 hi22 hz22 hy22 hx22 i22 hi100 hz100 hy100 hx100 i100 hi4 hz4 hy4 hx4 i4
  rintro a' w1 ⟨u, HB1, HV, rfl⟩
  obtain ⟨c, h, F, p, P, q, rb, v6, hu, bc, RC, PP, N6c⟩ : ∃ c h F p P q rb v6, u 23 = .pointer (some ⟨c, 0, none⟩) ∧ w.heap.size ≤ c ∧ w1.rowIs c 98 10 (gf (.slice (some ⟨h, 0, none⟩) n n) (.slice none 0 0) (.slice none 0 0) (.slice none 0 0) (.map (some F)) (.slice (some ⟨p, 0, none⟩) n n) v6 (.slice (some ⟨P, 0, none⟩) n n) (.slice (some ⟨q, 0, none⟩) n n) (.pointer (some ⟨rb, 0, none⟩))) ∧ Parts w1 w.heap.size n pl h F p P q rb v6 ∧ ∀ b, v6.ownBlock = some b → b ≠ c := HV
  rw [hu]
  clear hu
  have HB := hid HB1
  have hsz1 := HB1.size
  have k4 := (HB1.cell (p := ⟨g, 4, none⟩) (cell_lt' g4)).trans g4
  have HF1 := hid (HF.out.below HB1)
  have hfb : fb < w.heap.size := HF.out.lt
  have RC0 := hid RC
  have BU0 := hid PP.bun
  have bcl : c < w1.heap.size := RC.lt
  have hsD := fm_size HF.out
  clear PP N6c RC HB1
  go_wp2_with (first | (at_range; refine wpList_range_own _ rfl _ 75 rfl 73 3 keyed73 Try.underlying75 _ fb fn D rfl HF1.out ?_; intro w0 hrg0 hg0 hs0) | go_in)
  obtain ⟨r, hr⟩ : ∃ r, r = w1.heap.size := ⟨_, rfl⟩
  rw [← hr] at hrg0 hs0 BU0 bcl ⊢
  have HR := hid hr
  have hrw : w.heap.size ≤ r := by omega
  have Bw0 : Hid (Below w.heap.size w w0) := HB.out.grown hg0 hsz1 (fun j hj => by cases hj)
  have B10 : Hid (Below w1.heap.size w1 w0) := (Below.refl _ _).grown hg0 (Nat.le_refl _) (fun j hj => by cases hj)
  have BU1 := hid (BU0.out.below B10.out)
  have RC1 := hid (row_below RC0.out B10.out)
  clear hr hg0 BU0 RC0 B10 hs0
  go_loopw [5, 6] (fun _ _ wr => ∃ left cnt Dk kk, kk + cnt ≤ fn ∧ Hid (wr.ranges Try.prog 73 (plainElem Try.prog 3) fb r fn D left cnt) ∧ Hid (Bun wr w.heap.size r n pl h F p P q rb v6 (fun _ => .slice none 0 0) (fun _ => .slice none 0 0) kk Dk) ∧ Hid (Maps.Agree Dk D left) ∧ Hid (wr.rowIs c 98 10 (gf (.slice (some ⟨h, 0, none⟩) n n) (.slice none 0 0) (.slice none 0 0) (.slice none 0 0) (.map (some F)) (.slice (some ⟨p, 0, none⟩) n n) v6 (.slice (some ⟨P, 0, none⟩) n n) (.slice (some ⟨q, 0, none⟩) n n) (.pointer (some ⟨rb, 0, none⟩)))) ∧ Hid (Below w.heap.size w wr)) (fun _ _ wr => wr.rangeLeft fb r)
  case atStart => exact ⟨_, _, _, 0, by omega, hrg0, BU1, Maps.agree_start D, RC1, Bw0⟩
  case round =>
    obtain ⟨left, cnt, Dk, kk, hkc, HRG, BU, HA, RC, HBw⟩ := hrel
    clear hrg0 BU1 RC1 Bw0
    have hmeas := HRG.out.left_eq
    go_wp2_with (first | (at_next; refine wpList_next_ranges _ rfl _ rfl 73 keyed73 _ kv (Value.int .i64) (fun key kl h => by obtain ⟨k, hk, _⟩ := kv_inv h; exact ⟨k, hk⟩) (fun v y h => by obtain ⟨c, rfl, _⟩ := plainElem_int_inv Try.underlying3 h; exact ⟨c, rfl⟩) fb r fn _ _ _ rfl HRG.out ?_ ?_) | go_in)
    · intro hc0 hl0
      have HD := hid (Maps.agree_end HA.out hl0 (BU.out.rF.canon keyed73) (HF.out.canon keyed73))
      obtain ⟨w2, hw2⟩ : ∃ x, x = wr := ⟨_, rfl⟩
      subst hw2
      have BU2 : Hid (Bun w2 w.heap.size r n pl h F p P q rb v6 (fun _ => .slice none 0 0) (fun _ => .slice none 0 0) kk D) := by
        have := BU.out
        rw [HD.out] at this
        exact this
      have hz2 := HBw.out.size
      have hr2 : r < w2.heap.size := HRG.out.lt
      clear HRG HA HD BU hl0 hc0
      have k0 := (HBw.out.cell (p := ⟨g, 0, none⟩) (cell_lt' g0)).trans g0
      have hrn : pss.length ≤ 1048576 := by rw [← HNn.out]; exact hn
      go_wp2_with fail
      go_loopw [7, 63] (fun v i wr => ∃ (k : Nat) (zs : List (Int × Int)), k ≤ n ∧ i = .int .i64 k ∧ zs.length ≤ 1048576 ∧ Hid (zs = (pss.take k).flatten) ∧ Hid (Own2 wr w2.heap.size zs v) ∧ Hid (Below w2.heap.size w2 wr)) (fun _ i _ => n - (intOf i).toNat)
      case atStart => exact ⟨0, [], Nat.zero_le _, rfl, by simp, by show _ = _; simp, World.ownsRow_nil _ _ _ _, Below.refl _ _⟩
      case round =>
        obtain ⟨k, zs, hk, rfl, hzl, HZ, HO, HB2⟩ := hrel
        have hsz := HB2.out.size
        have D2 := hid (below_next HBw.out HB2.out)
        by_cases hlt : k < n
        · have hlt' : k < pss.length := by rw [← HNn.out]; exact hlt
          obtain ⟨b, off, ai, ci, xs, rfl, d1, hbl, RI, NI, HX, HD⟩ := R0.out.get D2.out hlt'
          have HNx := hid (show zs ++ xs = (pss.take (k + 1)).flatten by rw [take_flat HD.out, HZ.out])
          have hnl : (zs ++ xs).length ≤ 1048576 := by rw [HNx.out]; exact Nat.le_trans (take_flat_le _ _) ht0
          have hnl2 : zs.length + xs.length ≤ 1048576 := by rw [← List.length_append]; exact hnl
          clear hlt'
          go_wp2_with (at_builtin; refine wpList_append_links rfl (.tmp 67) (.tmp 68) rfl w2.heap.size _ zs rfl HO.out ai ci xs rfl RI.out NI.out (by omega) hsz ?_; intro v1 w1 hown1 hgrow1 hnil1)
          refine ⟨⟨k + 1, zs ++ xs, hlt, by simp, hnl, HNx, hown1, below_push HB2.out HO.out hgrow1 hsz⟩, by simp [intOf]; omega⟩
        · have HE := hid (show zs = pss.flatten by rw [HZ.out, List.take_of_length_le (by rw [← HNn.out]; omega)])
          obtain ⟨w3, hw3⟩ : ∃ x, x = wr := ⟨_, rfl⟩
          subst hw3
          have HO3 : Hid (Own2 w3 w2.heap.size pss.flatten u7) := by
            have := HO.out
            rw [HE.out] at this
            exact this
          have BU3 := hid (BU2.out.below HB2.out)
          have RC3 := hid (row_below RC.out HB2.out)
          clear HO HE HZ BU2 RC zs hzl
          obtain ⟨vL, hvL⟩ : ∃ x, x = u7 := ⟨_, rfl⟩
          subst hvL
          have k0' := (D2.out.cell (p := ⟨g, 0, none⟩) (cell_lt' g0)).trans g0
          have hz3 := D2.out.size
          obtain ⟨L, hL0⟩ : ∃ L, L = pss.flatten.length := ⟨_, rfl⟩
          have CU3 : Hid (Cur vL L 0 vL) := by rw [hL0]; exact cur_start HO3.out
          have HLe := hid hL0
          clear k0 hk hL0
          go_wp2_with fail
          go_loopw [7, 76] (fun v i wr => ∃ (k o : Nat) (f : Nat → Value), k ≤ n ∧ i = .int .i64 k ∧ Hid (Cur vL L o v) ∧ o ≤ L ∧ Hid (o = (pss.take k).flatten.length) ∧ Hid (Bun wr w.heap.size r n pl h F p P q rb v6 f (fun _ => .slice none 0 0) kk D) ∧ Hid (CutAt 2 vL pss k f) ∧ Hid (wr.rowIs c 98 10 (gf (.slice (some ⟨h, 0, none⟩) n n) (.slice none 0 0) (.slice none 0 0) (.slice none 0 0) (.map (some F)) (.slice (some ⟨p, 0, none⟩) n n) v6 (.slice (some ⟨P, 0, none⟩) n n) (.slice (some ⟨q, 0, none⟩) n n) (.pointer (some ⟨rb, 0, none⟩)))) ∧ Hid (But h w3 wr) ∧ Hid (Below w.heap.size w wr)) (fun _ i _ => n - (intOf i).toNat)
          case atStart => exact ⟨0, 0, _, Nat.zero_le _, rfl, CU3, Nat.zero_le _, by show _ = _; simp, BU3, fun i hi => by omega, RC3, But.refl _ _, D2⟩
          case round =>
            obtain ⟨k, o, f, hk, rfl, HCu, ho, HOf, BUr, HCt, RCr, HBt, HBr⟩ := hrel
            clear BU3 RC3 D2 CU3
            have hz4 := HBr.out.size
            have bh := BUr.out.bh.1
            by_cases hlt : k < n
            · have hlt' : k < pss.length := by rw [← HNn.out]; exact hlt
              obtain ⟨b, off, ai, ci, xs, rfl, d1, hbl, RI, NI, HX, HD⟩ := R0.out.get HBr.out hlt'
              have x0 : wr.cell? ⟨c, 0, none⟩ = some (.slice (some ⟨h, 0, none⟩) n n) := RCr.out.cell (i := 0) (by omega)
              have e1 := BUr.out.rh.frozen k
              have d2 := BUr.out.rh.cell (i := k) hlt
              have HO2 := hid (show o + xs.length = (pss.take (k + 1)).flatten.length by rw [take_flat HD.out, List.length_append, HOf.out])
              have hox : o + xs.length ≤ L := by rw [HO2.out, HLe.out]; exact take_flat_le pss (k + 1)
              have hXS : ∀ v, Hid (Bun (wr.setCell ⟨h, k, none⟩ v) w.heap.size r n pl h F p P q rb v6 (fun j => if j = k then v else f j) (fun _ => .slice none 0 0) kk D) := fun v => BUr.out.at_h (But.refl h wr).set (BUr.out.rh.set k v)
              have hRS : ∀ v, Hid ((wr.setCell ⟨h, k, none⟩ v).rowIs c 98 10 (gf (.slice (some ⟨h, 0, none⟩) n n) (.slice none 0 0) (.slice none 0 0) (.slice none 0 0) (.map (some F)) (.slice (some ⟨p, 0, none⟩) n n) v6 (.slice (some ⟨P, 0, none⟩) n n) (.slice (some ⟨q, 0, none⟩) n n) (.pointer (some ⟨rb, 0, none⟩)))) := fun v => row_but RCr.out (But.refl h wr).set (onlyTag_row BUr.out.rh) (by decide)
              have hTS : ∀ v, Hid (But h w3 (wr.setCell ⟨h, k, none⟩ v)) := fun v => HBt.out.set
              have hBS : ∀ v, Hid (Below w.heap.size w (wr.setCell ⟨h, k, none⟩ v)) := fun v => HBr.out.setCell bh v
              rcases HCu.out with ⟨hu, hv, hL⟩ | ⟨ab, ca, pp, hu, hv, HPO, hLc⟩
              · obtain rfl : xs = [] := by rw [← HX.out]; exact flat_nil (HLe.out.symm.trans hL) hlt'
                subst hv
                subst hu
                have HC3 := hid (cutAt_nil HCt.out HX.out)
                have B3 := hXS (.slice none 0 0)
                have C3 := hRS (.slice none 0 0)
                have T3 := hTS (.slice none 0 0)
                have W3 := hBS (.slice none 0 0)
                clear hXS hRS hTS hBS HX HD HCt HBt HBr RCr BUr HCu RI NI hlt'
                go_wp2_with fail
                go_region
                all_goals
                  go_wp2_with fail
                  exact ⟨⟨k + 1, o, _, hlt, by simp, hid (.inl ⟨rfl, rfl, hL⟩), ho, HO2, hid (B3.out.below (Below.refl _ _).drew), HC3, C3.out.drew, T3.out.drew, W3.out.drew⟩, by simp [intOf]; omega⟩
              · subst hv
                subst hu
                have HC3 := hid (cutAt_some (s := 2) HCt.out HX.out (p := pp) (by
                  rcases HPO.out with h' | h'
                  · exact .inl (by rw [h', HOf.out])
                  · exact .inr (List.length_eq_zero_iff.1 (by omega))))
                have q1 : xs.length ≤ L - o := by omega
                have q2 : xs.length ≤ ca - o := by omega
                have hs1 : L - o - xs.length = L - (o + xs.length) := by omega
                have hs2 : ca - o - xs.length = ca - (o + xs.length) := by omega
                have B3 := hXS (.slice (some ⟨ab, pp, none⟩) xs.length xs.length)
                have C3 := hRS (.slice (some ⟨ab, pp, none⟩) xs.length xs.length)
                have T3 := hTS (.slice (some ⟨ab, pp, none⟩) xs.length xs.length)
                have W3 := hBS (.slice (some ⟨ab, pp, none⟩) xs.length xs.length)
                clear hXS hRS hTS hBS HX HD HCt HBt HBr RCr BUr HCu RI NI hlt' HOf
                by_cases hcap : ca - o = xs.length
                · have HP2 := hid (show pp = (o + xs.length) * 2 ∨ ca - (o + xs.length) = 0 from .inr (by omega))
                  go_wp2_with fail
                  go_region
                  all_goals
                    go_wp2_with fail
                    exact ⟨⟨k + 1, o + xs.length, _, hlt, by simp, hid (.inr ⟨ab, ca, pp, rfl, by (first | (simp; done) | (simp; omega)), HP2, hLc⟩), hox, HO2, hid (B3.out.below (Below.refl _ _).drew), HC3, C3.out.drew, T3.out.drew, W3.out.drew⟩, by simp [intOf]; omega⟩
                · have hpo := hid (show pp = o * 2 by
                    rcases HPO.out with h' | h'
                    · exact h'
                    · omega)
                  have HP2 := hid (show pp + xs.length * 2 = (o + xs.length) * 2 ∨ ca - (o + xs.length) = 0 from .inl (by rw [hpo.out, Nat.add_mul]))
                  go_wp2_with fail
                  go_region
                  all_goals
                    go_wp2_with fail
                    exact ⟨⟨k + 1, o + xs.length, _, hlt, by simp, hid (.inr ⟨ab, ca, pp + xs.length * 2, rfl, by (first | (simp; done) | (simp; omega)), HP2, hLc⟩), hox, HO2, hid (B3.out.below (Below.refl _ _).drew), HC3, C3.out.drew, T3.out.drew, W3.out.drew⟩, by simp [intOf]; omega⟩
            · have hke := hid (show k = n by omega)
              obtain ⟨w4, hw4⟩ : ∃ x, x = wr := ⟨_, rfl⟩
              subst hw4
              have HC4 : Hid (CutAt 2 vL pss n f) := by
                have := HCt.out
                rw [hke.out] at this
                exact this
              have HO4 := hid (own_but_lt HO3.out HBt.out (by have := BUr.out.bh.2; omega))
              have hz5 := HBt.out.1
              have ht7 : Hid (∀ b, vL.ownBlock = some b → b < w4.heap.size) := fun b hb => own_lt HO4.out hb
              clear HCu HOf HCt HO3 HBt hk ho
              have y1 := (HBr.out.cell (p := ⟨g, 1, none⟩) (cell_lt' g1)).trans g1
              have y2 := (HBr.out.cell (p := ⟨g, 2, none⟩) (cell_lt' g2)).trans g2
              have y3 := (HBr.out.cell (p := ⟨g, 3, none⟩) (cell_lt' g3)).trans g3
              have L1 := hid (R1.out.below HBr.out)
              have L2 := hid (R2.out.below HBr.out)
              have L3 := hid (R3.out.below HBr.out)
              have x1 : w4.cell? ⟨c, 1, none⟩ = some (.slice none 0 0) := RCr.out.cell (i := 1) (by omega)
              have x2 : w4.cell? ⟨c, 2, none⟩ = some (.slice none 0 0) := RCr.out.cell (i := 2) (by omega)
              have x3 : w4.cell? ⟨c, 3, none⟩ = some (.slice none 0 0) := RCr.out.cell (i := 3) (by omega)
              have hgc : g ≠ c := by have := cell_lt' g1; simp only at this; omega
              go_upto_region 18 with fail
              go_region_held3 (fun w' => w'.cell? ⟨g, 1, none⟩ = some (.slice a1 hb.length c1) ∧ w'.cell? ⟨g, 2, none⟩ = some (.slice a2 co.length c2) ∧ w'.cell? ⟨g, 3, none⟩ = some (.slice a3 cb.length c3)) (first | exact ⟨by assumption, by assumption, by assumption⟩ | exact ⟨cell_keep (by assumption) hgc, cell_keep (by assumption) hgc, cell_keep (by assumption) hgc⟩ | exact ⟨cell_keep (cell_keep (by assumption) hgc) hgc, cell_keep (cell_keep (by assumption) hgc) hgc, cell_keep (cell_keep (by assumption) hgc) hgc⟩ | exact ⟨cell_keep (cell_keep (cell_keep (by assumption) hgc) hgc) hgc, cell_keep (cell_keep (cell_keep (by assumption) hgc) hgc) hgc, cell_keep (cell_keep (cell_keep (by assumption) hgc) hgc) hgc⟩ | go_keep)
                (first
                | (have _hq := M2; clear _hq; go_at_call 68; refine (cloneLists_at a3 c3 cb w6 hl3 ht3 (hid (L3.out.below D6.out))).mono ?_; rintro e w7 ⟨⟨X3, f3, v3, rfl, M3⟩, B7⟩; (have D7 := hid (below_next D6.out B7.out)); (have y1c : w7.cell? ⟨g, 1, none⟩ = some (.slice a1 hb.length c1) := (D7.out.cell (p := ⟨g, 1, none⟩) (cell_lt' y1)).trans y1); (have y2c : w7.cell? ⟨g, 2, none⟩ = some (.slice a2 co.length c2) := (D7.out.cell (p := ⟨g, 2, none⟩) (cell_lt' y2)).trans y2); (have y3c : w7.cell? ⟨g, 3, none⟩ = some (.slice a3 cb.length c3) := (D7.out.cell (p := ⟨g, 3, none⟩) (cell_lt' y3)).trans y3); (have Cc := hid (row_below RCr.out D7.out)); (have x1c : w7.cell? ⟨c, 1, none⟩ = some (.slice none 0 0) := Cc.out.cell (i := 1) (by omega)); (have z1c := Cc.out.frozen 1); (have x2c : w7.cell? ⟨c, 2, none⟩ = some (.slice none 0 0) := Cc.out.cell (i := 2) (by omega)); (have z2c := Cc.out.frozen 2); (have x3c : w7.cell? ⟨c, 3, none⟩ = some (.slice none 0 0) := Cc.out.cell (i := 3) (by omega)); (have z3c := Cc.out.frozen 3); (have S7 := B7.out.size); (have B7' := B7); clear B7)
                | (have _hq := M1; clear _hq; go_at_call 68; refine (cloneLists_at a2 c2 co w5 hl2 ht2 (hid (L2.out.below D5.out))).mono ?_; rintro e w6 ⟨⟨X2, f2, v2, rfl, M2⟩, B6⟩; (have D6 := hid (below_next D5.out B6.out)); (have y1b : w6.cell? ⟨g, 1, none⟩ = some (.slice a1 hb.length c1) := (D6.out.cell (p := ⟨g, 1, none⟩) (cell_lt' y1)).trans y1); (have y2b : w6.cell? ⟨g, 2, none⟩ = some (.slice a2 co.length c2) := (D6.out.cell (p := ⟨g, 2, none⟩) (cell_lt' y2)).trans y2); (have y3b : w6.cell? ⟨g, 3, none⟩ = some (.slice a3 cb.length c3) := (D6.out.cell (p := ⟨g, 3, none⟩) (cell_lt' y3)).trans y3); (have Cb := hid (row_below RCr.out D6.out)); (have x1b : w6.cell? ⟨c, 1, none⟩ = some (.slice none 0 0) := Cb.out.cell (i := 1) (by omega)); (have z1b := Cb.out.frozen 1); (have x2b : w6.cell? ⟨c, 2, none⟩ = some (.slice none 0 0) := Cb.out.cell (i := 2) (by omega)); (have z2b := Cb.out.frozen 2); (have x3b : w6.cell? ⟨c, 3, none⟩ = some (.slice none 0 0) := Cb.out.cell (i := 3) (by omega)); (have z3b := Cb.out.frozen 3); (have S6 := B6.out.size); (have B6' := B6); clear B6)
                | (go_at_call 68; refine (cloneLists_at a1 c1 hb _ hl1 ht1 ?_).mono ?_; (exact L1); rintro e w5 ⟨⟨X1, f1, v1, rfl, M1⟩, B5⟩; (have D5 := hid ((Below.drew (Below.refl _ _)).trans B5.out : Below w4.heap.size w4 w5)); (have y1a : w5.cell? ⟨g, 1, none⟩ = some (.slice a1 hb.length c1) := (D5.out.cell (p := ⟨g, 1, none⟩) (cell_lt' y1)).trans y1); (have y2a : w5.cell? ⟨g, 2, none⟩ = some (.slice a2 co.length c2) := (D5.out.cell (p := ⟨g, 2, none⟩) (cell_lt' y2)).trans y2); (have y3a : w5.cell? ⟨g, 3, none⟩ = some (.slice a3 cb.length c3) := (D5.out.cell (p := ⟨g, 3, none⟩) (cell_lt' y3)).trans y3); (have Ca := hid (row_below RCr.out D5.out)); (have x1a : w5.cell? ⟨c, 1, none⟩ = some (.slice none 0 0) := Ca.out.cell (i := 1) (by omega)); (have z1a := Ca.out.frozen 1); (have x2a : w5.cell? ⟨c, 2, none⟩ = some (.slice none 0 0) := Ca.out.cell (i := 2) (by omega)); (have z2a := Ca.out.frozen 2); (have x3a : w5.cell? ⟨c, 3, none⟩ = some (.slice none 0 0) := Ca.out.cell (i := 3) (by omega)); (have z3a := Ca.out.frozen 3); clear B5))
              have hcr : c < w4.heap.size := RCr.out.lt
              have C8 : Hid ((((w7.setCell ⟨c, 1, none⟩ (.slice (some ⟨X1, 0, none⟩) hb.length hb.length)).setCell ⟨c, 2, none⟩ (.slice (some ⟨X2, 0, none⟩) co.length co.length)).setCell ⟨c, 3, none⟩ (.slice (some ⟨X3, 0, none⟩) cb.length cb.length)).rowIs c 98 10 (gf (.slice (some ⟨h, 0, none⟩) n n) (.slice (some ⟨X1, 0, none⟩) hb.length hb.length) (.slice (some ⟨X2, 0, none⟩) co.length co.length) (.slice (some ⟨X3, 0, none⟩) cb.length cb.length) (.map (some F)) (.slice (some ⟨p, 0, none⟩) n n) v6 (.slice (some ⟨P, 0, none⟩) n n) (.slice (some ⟨q, 0, none⟩) n n) (.pointer (some ⟨rb, 0, none⟩)))) := (((((Cc.out.set 1 (.slice (some ⟨X1, 0, none⟩) hb.length hb.length)).congr (gf_set1 _ _ _ _ _ _ _ _ _ _ _)).set 2 (.slice (some ⟨X2, 0, none⟩) co.length co.length)).congr (gf_set2 _ _ _ _ _ _ _ _ _ _ _)).set 3 (.slice (some ⟨X3, 0, none⟩) cb.length cb.length)).congr (gf_set3 _ _ _ _ _ _ _ _ _ _ _)
              have T8 : Hid (But c w7 (((w7.setCell ⟨c, 1, none⟩ (.slice (some ⟨X1, 0, none⟩) hb.length hb.length)).setCell ⟨c, 2, none⟩ (.slice (some ⟨X2, 0, none⟩) co.length co.length)).setCell ⟨c, 3, none⟩ (.slice (some ⟨X3, 0, none⟩) cb.length cb.length))) := (But.refl c w7).set.set.set
              have U8 := hid ((BUr.out.below D7.out).at_c Cc.out T8.out)
              have N1 : Hid (ListAt (((w7.setCell ⟨c, 1, none⟩ (.slice (some ⟨X1, 0, none⟩) hb.length hb.length)).setCell ⟨c, 2, none⟩ (.slice (some ⟨X2, 0, none⟩) co.length co.length)).setCell ⟨c, 3, none⟩ (.slice (some ⟨X3, 0, none⟩) cb.length cb.length)) w4.heap.size w5.heap.size X1 hb f1 v1) := (((show ListAt w5 w4.heap.size w5.heap.size X1 hb f1 v1 from M1.out).below B6'.out).below B7'.out).but T8.out hcr
              have N2 := hid ((M2.out.below B7'.out).but T8.out (by have := D5.out.size; omega))
              have N3 := hid (M3.out.but T8.out (by have := D6.out.size; omega))
              have HO8 := hid (own_but_lt (own_below HO4.out D7.out) T8.out (by omega))
              have HB8 : Hid (Below w.heap.size w (((w7.setCell ⟨c, 1, none⟩ (.slice (some ⟨X1, 0, none⟩) hb.length hb.length)).setCell ⟨c, 2, none⟩ (.slice (some ⟨X2, 0, none⟩) co.length co.length)).setCell ⟨c, 3, none⟩ (.slice (some ⟨X3, 0, none⟩) cb.length cb.length))) := (((below_next HBr.out D7.out).setCell bc _).setCell bc _).setCell bc _
              have hS8 : Hid ((((w7.setCell ⟨c, 1, none⟩ (.slice (some ⟨X1, 0, none⟩) hb.length hb.length)).setCell ⟨c, 2, none⟩ (.slice (some ⟨X2, 0, none⟩) co.length co.length)).setCell ⟨c, 3, none⟩ (.slice (some ⟨X3, 0, none⟩) cb.length cb.length)).heap.size = w7.heap.size) := by show _ = _; simp
              obtain ⟨w8, hw8⟩ : ∃ x, x = (((w7.setCell ⟨c, 1, none⟩ (.slice (some ⟨X1, 0, none⟩) hb.length hb.length)).setCell ⟨c, 2, none⟩ (.slice (some ⟨X2, 0, none⟩) co.length co.length)).setCell ⟨c, 3, none⟩ (.slice (some ⟨X3, 0, none⟩) cb.length cb.length)) := ⟨_, rfl⟩
              rw [← hw8] at C8 T8 U8 N1 N2 N3 HO8 HB8 hS8 ⊢
              have hz45 := D5.out.size
              have hc8 : c < w8.heap.size := C8.out.lt
              clear hw8 T8 y1a x1a z1a y2a x2a z2a y3a x3a z3a y1b x1b z1b y2b x2b z2b y3b x3b z3b y1c x1c z1c y2c x2c z2c y3c x3c z3c Ca Cb Cc L1 L2 L3 x1 x2 x3 y1 y2 y3 M1 M2 M3 B6' B7' RCr BUr HO4
              have k5 := (HB8.out.cell (p := ⟨g, 5, none⟩) (cell_lt' g5)).trans g5
              have hS4 := hS8.out
              go_wp2_with fail
              go_loopw [127] (fun i wr => ∃ (k : Nat) (fp : Nat → Value), k ≤ pb.length ∧ i = .int .i64 k ∧ Hid (Bun wr w.heap.size r n pl h F p P q rb v6 f fp kk D) ∧ Hid (PoolAt wr w7.heap.size n pb k fp) ∧ Hid (wr.rowIs c 98 10 (gf (.slice (some ⟨h, 0, none⟩) n n) (.slice (some ⟨X1, 0, none⟩) hb.length hb.length) (.slice (some ⟨X2, 0, none⟩) co.length co.length) (.slice (some ⟨X3, 0, none⟩) cb.length cb.length) (.map (some F)) (.slice (some ⟨p, 0, none⟩) n n) v6 (.slice (some ⟨P, 0, none⟩) n n) (.slice (some ⟨q, 0, none⟩) n n) (.pointer (some ⟨rb, 0, none⟩)))) ∧ Hid (But p w8 wr) ∧ Hid (Below w.heap.size w wr)) (fun i _ => pb.length - (intOf i).toNat)
              case atStart => exact ⟨0, _, Nat.zero_le _, rfl, U8, ⟨fun i hi => by omega, fun i _ _ => rfl, fun i j b hi => by omega⟩, C8, But.refl _ _, HB8⟩
              case round =>
                obtain ⟨k, fp, hk, rfl, BUr, HP, RCr, HBt, HBr⟩ := hrel
                clear U8 C8 k5
                have hz9 := HBr.out.size
                have hz8 := HBt.out.1
                have hp4 : p < w7.heap.size := by have := BUr.out.bp.2; omega
                by_cases hlt : k < pb.length
                · obtain ⟨b, off, ai, ci, xs, rfl, d1, hbl, RI, NI, HX, HD⟩ := R5.out.get HBr.out hlt
                  have hxl : xs.length ≤ 1048576 := by rw [← HX.out]; exact ht5.out k
                  have x5 : wr.cell? ⟨c, 5, none⟩ = some (.slice (some ⟨p, 0, none⟩) n n) := RCr.out.cell (i := 5) (by omega)
                  have hcp : c ≠ p := rowIs_ne RCr.out BUr.out.rp (by decide)
                  have hkn : k < n := by omega
                  have hcl := RCr.out.lt
                  go_upto_region 22 with fail
                  go_region_held3 (fun w' => w'.cell? ⟨c, 5, none⟩ = some (.slice (some ⟨p, 0, none⟩) n n)) (first | assumption | exact cell_keep (by assumption) hcp | go_keep)
                    (first
                    | (go_at_call 69; refine (sclone3_own ai ci xs _ (by omega) ?_ ?_).mono ?_; (exact RI); (exact NI); rintro e w9 ⟨⟨vv, rfl, HO9⟩, B9⟩; (obtain ⟨aa, cc, e9⟩ := own_slice HO9.out); subst e9; (have D9 := hid ((Below.drew (Below.refl _ _)).trans B9.out : Below wr.heap.size wr w9)); (have x5a : w9.cell? ⟨c, 5, none⟩ = some (.slice (some ⟨p, 0, none⟩) n n) := (D9.out.cell (p := ⟨c, 5, none⟩) hcl).trans x5); (have U9 := hid (BUr.out.below D9.out)); (have pk := U9.out.rp.cell (i := k) hkn); (have pz := U9.out.rp.frozen k); clear B9))
                  have C9 := hid (row_below RCr.out D9.out)
                  have T10 : Hid (But p w9 (w9.setCell ⟨p, k, none⟩ (.slice aa xs.length cc))) := (But.refl p w9).set
                  have U10 := hid (U9.out.at_p T10.out (U9.out.rp.set k (.slice aa xs.length cc)))
                  have C10 := hid (row_but' C9.out T10.out hcp)
                  have P9 : Hid (PoolAt w9 w7.heap.size n pb (k + 1) (fun j => if j = k then (.slice aa xs.length cc) else fp j)) := (HP.out.below D9.out).step (T := wr.heap.size) (by rw [HX.out]; exact HO9.out) (by omega) (fun i b hi hb => own_lt (HP.out.own i hi) hb)
                  have P10 := hid (P9.out.but T10.out hp4)
                  have T11 : Hid (But p w8 (w9.setCell ⟨p, k, none⟩ (.slice aa xs.length cc))) := (HBt.out.trans (But.of_below D9.out)).set
                  have B10 : Hid (Below w.heap.size w (w9.setCell ⟨p, k, none⟩ (.slice aa xs.length cc))) := (below_next HBr.out D9.out).setCell BUr.out.bp.1 _
                  clear U9 C9 P9 T10 HP BUr RCr HBt HBr HX HD RI NI HO9
                  go_wp2_with fail
                  exact ⟨⟨k + 1, _, hlt, by simp, U10, P10, C10, T11, B10⟩, by simp [intOf]; omega⟩
                · have hke := hid (show k = pb.length by omega)
                  have hpr := BUr.out.bp.2
                  have HPe : Hid (PoolAt wr w7.heap.size n pb pb.length fp) := by
                    have := HP.out
                    rw [hke.out] at this
                    exact this
                  have Q1 := hid (N1.out.but HBt.out (by omega))
                  have Q2 := hid (N2.out.but HBt.out (by omega))
                  have Q3 := hid (N3.out.but HBt.out (by omega))
                  have Q7 := hid (own_mono (own_but_lt HO8.out HBt.out (by omega)) (Nat.le_of_lt hr2))
                  have hq1 : r ≤ w4.heap.size := by omega
                  clear HP N1 N2 N3 HO8 HBt
                  go_wp2_with fail
                  go_ret
                  refine ⟨⟨c, rfl, h, F, p, P, q, rb, v6, vL, f, fp, kk, X1, X2, X3, f1, f2, f3, v1, v2, v3, r, w4.heap.size, w5.heap.size, w6.heap.size, w7.heap.size, ?_⟩, HBr⟩
                  rw [← HNn.out]
                  exact ⟨⟨bc, bcl⟩, hq1, hz45, S6, S7, RCr.out, BUr.out, Q7.out, ht7.out, HC4.out, Q1.out, Q2.out, Q3.out, HPe.out⟩
    · intro k1 k2 z l d ps wA cnt1 hkx hlx hvz hat hrg1 hlt hg1 hs1 hen
      have hFr : F ≠ r := by have := BU.out.bF.2; omega
      have BA : Hid (But r wr wA) := (But.refl r wr).grown hg1 (fun j hj => .inl (by cases hj; rfl))
      have UA := hid (BU.out.at_r (fun T => ranges_tag HRG.out T) hFr BA.out)
      have CA := hid (row_but RC.out BA.out (ranges_tag HRG.out 0) (by decide))
      have BwA : Hid (Below w.heap.size w wA) := HBw.out.grown hg1 HBw.out.size (fun j hj => by cases hj; omega)
      have RGA := hid hrg1
      have HAt := hid hat
      have HVz := hid hvz
      have HKx := hid hkx
      have hszA := BwA.out.size
      clear hrg1 hg1 hat hvz hkx BA BU RC HBw HRG hlx hs1
      unfold kv at hen
      dsimp only at hen
      unfold kv
      go_upto_region 6 with fail
      have W0 := hid (show (wA.alloc (.cells #[.int .i64 k1, .int .i64 k2] 73)).cell? ⟨wA.heap.size, 0, none⟩ = some (.int .i64 k1) ∧ (wA.alloc (.cells #[.int .i64 k1, .int .i64 k2] 73)).cell? ⟨wA.heap.size, 1, none⟩ = some (.int .i64 k2) by constructor <;> simp [go_sem])
      have BAB := hid ((Below.refl wA.heap.size wA).alloc (Nat.le_refl _) (.cells #[.int .i64 k1, .int .i64 k2] 73))
      have BwB := hid (BwA.out.alloc hszA (.cells #[.int .i64 k1, .int .i64 k2] 73))
      have RGB := hid (RGA.out.alloc (.cells #[.int .i64 k1, .int .i64 k2] 73))
      have UB := hid (UA.out.below BAB.out)
      have CB := hid (row_below CA.out BAB.out)
      obtain ⟨wB, hwB⟩ : ∃ x, x = wA.alloc (.cells #[.int .i64 k1, .int .i64 k2] 73) := ⟨_, rfl⟩
      rw [← hwB] at W0 BwB RGB UB CB ⊢
      clear hwB BAB UA CA RGA BwA
      obtain ⟨e0, e1⟩ := W0.out
      have x4 : wB.cell? ⟨c, 4, none⟩ = some (.map (some F)) := CB.out.cell (i := 4) (by omega)
      obtain ⟨wC, hup, hFC, hgC⟩ := (show FM wB.drew F kk Dk from UB.out.rF).update keyed73 Try.underlying75 (by unfold maxLen; omega) HKx.out HVz.out
      unfold kv at hup
      dsimp only at hup
      have HFC := hid hFC
      have BBC : Hid (But F wB wC) := (But.refl F wB).drew.grown hgC (fun j hj => .inl (by cases hj; rfl))
      have UC := hid (UB.out.at_F BBC.out HFC.out)
      have CC := hid (row_but CB.out BBC.out (onlyTag_fm UB.out.rF 0) (by decide))
      have RGC := hid ((show wB.drew.ranges Try.prog 73 (plainElem Try.prog 3) fb r fn D (fun z => left z && !z.sameKey l) cnt1 from RGB.out).kept hgC (by have := UB.out.bF.1; simp; omega) (by simp; omega))
      have BwC : Hid (Below w.heap.size w wC) := BwB.out.drew.grown hgC BwB.out.size (fun j hj => by cases hj; exact UB.out.bF.1)
      have HAC := hid (Maps.agree_step HA.out (by obtain ⟨es, he, _⟩ := UB.out.rF.canon keyed73; exact ⟨es, he⟩) (keyed73.key HKx.out) HAt.out)
      have hlC := RGC.out.left_eq
      clear hFC hgC HFC BBC UB CB RGB BwB HKx HVz HAt
      go_region
      all_goals
        go_wp2_with fail
        exact ⟨⟨_, cnt1, _, kk + 1, by omega, RGC, UC, HAC, CC, BwC⟩, by rw [hlC, hmeas]; omega⟩

end Go.Proofs.Qxb6605294a
