import Derived.Test.Qxb6605294aFacts
import Derived.BigRegion
set_option maxRecDepth 100000
namespace Go.Proofs.Qxb6605294a
open Go.ChangeShapes Go.WideShapes Go.ChangeAt Go.RowKit
open Go.Maps (Keyed)
set_option linter.unusedVariables false

theorem mk75 (n : Int) (w : World) : (Instr.makeMap 75 (some (.int .i64 n))).run Try.prog w = .ok (.map (some w.heap.size)) (w.alloc (.map #[] 0)) := by
  simp [Instr.makeMap, run_underlying Try.underlying75, Result.andThen, asInt, asIntOf]
theorem mem_drop {α : Type} {xs : List α} {i : Nat} {x : α} (h : xs.drop i = x :: xs.drop (i + 1)) : x ∈ xs := List.mem_of_mem_drop (i := i) (by rw [h]; simp)
/-- what ZZGraphHolds hands back -/
def HoldsC : Prop := ∀ (g : Nat) (a : Option Addr) (c : Nat) (pss : List (List (Int × Int))) (w : World), pss.length ≤ 1048576 → Hid (∀ i, (pss.getD i []).length ≤ 1048576) → w.cell? ⟨g, 0, none⟩ = some (.slice a pss.length c) → Hid (HRow w a pss) →
  Calls Try.prog 41 #[.pointer (some ⟨g, 0, none⟩)] w fun e w' => (∃ a1 c1 a2 c2, e = .returned (.tuple #[.slice a1 (pss.map (·.map Prod.fst)).length c1, .slice a2 (pss.map (·.map Prod.snd)).length c2]) ∧ Hid (LRow w' a1 (pss.map (·.map Prod.fst))) ∧ Hid (LRow w' a2 (pss.map (·.map Prod.snd)))) ∧ Hid (Below w.heap.size w w')

set_option maxHeartbeats 8000000 in
theorem matches_yes (HC : Hid HoldsC) (g : Nat) (a1 a2 a3 a4 a5 a6 a7 a8 a9 : Option Addr) (c1 c2 c3 c4 c5 c6 c7 c8 c9 : Nat) (pss : List (List (Int × Int))) (A0 A1 hb co cb pb A7 : List (List Int)) (K5 : List (Int × Int)) (V6 : List Int) (pl : List Bool) (w : World)
    (e0 : Hid (A0 = pss.map (·.map Prod.fst))) (e1 : Hid (A1 = pss.map (·.map Prod.snd))) (l0 : A0.length ≤ 1048576) (l1 : A1.length ≤ 1048576) (lh : hb.length ≤ 1048576) (lc : co.length ≤ 1048576) (lb : cb.length ≤ 1048576) (lp : pb.length ≤ 1048576) (lk : K5.length ≤ 1048576) (lv : V6.length ≤ 1048576) (l7 : A7.length ≤ 1048576) (lq : pl.length ≤ 1048576)
    (m0 : Hid (∀ i, (pss.getD i []).length ≤ 1048576)) (mA : Hid (∀ i, (A0.getD i []).length ≤ 100000000)) (mB : Hid (∀ i, (A1.getD i []).length ≤ 100000000)) (mh : Hid (∀ i, (hb.getD i []).length ≤ 100000000)) (mc : Hid (∀ i, (co.getD i []).length ≤ 100000000)) (mb : Hid (∀ i, (cb.getD i []).length ≤ 100000000)) (m7 : Hid (∀ i, (A7.getD i []).length ≤ 100000000))
    (hp1 : A7.length ≤ pb.length) (hp2 : Hid (∀ i, pb.getD i [] = A7.getD i [])) (hkv : Hid (V6.length = K5.length)) (hwk : Hid (∀ k ∈ K5, wfK k)) (hwv : Hid (∀ v ∈ V6, (Lit.int .i64 v).wf = true))
    (G : Hid (GAt w g pss hb co cb pb (factsD K5 V6 (.map [])) pl))
    (R1 : Hid (LRow w a1 A0)) (R2 : Hid (LRow w a2 A1)) (R3 : Hid (LRow w a3 hb)) (R4 : Hid (LRow w a4 co)) (R5 : Hid (LRow w a5 cb)) (R6 : Hid (PairRow w a6 K5)) (R7 : Hid (IRow w a7 V6)) (R8 : Hid (LRow w a8 A7)) (R9 : Hid (Row Value.bool false w a9 pl)) :
    Calls Try.prog 36 #[.pointer (some ⟨g, 0, none⟩), .slice a1 A0.length c1, .slice a2 A1.length c2, .slice a3 hb.length c3, .slice a4 co.length c4, .slice a5 cb.length c5, .slice a6 K5.length c6, .slice a7 V6.length c7, .slice a8 A7.length c8, .slice a9 pl.length c9, .int .i64 pb.length] w
      fun e w' => e = .returned (.bool true) ∧ Hid (Below w.heap.size w w') := by
  obtain ⟨ga0, gc0, ga1, gc1, ga2, gc2, ga3, gc3, fb, fn, ga5, gc5, ga6, gc6, h0, h1, h2, h3, h4, h5, h6, r0, r1, r2, r3, r4, r5, r6⟩ := G.out
  have lg := cell_lt' h0
  have lpss : A0.length = pss.length := by rw [e0.out]; simp
  have lpss2 : A1.length = pss.length := by rw [e1.out]; simp
  have LP := hid lpss
  have LP2 := hid lpss2
  have Q0 := hid r0
  have Q1 := hid r1
  have Q2 := hid r2
  have Q3 := hid r3
  have Q4 := hid r4
  have Q5 := hid r5
  have Q6 := hid r6
  have lps : pss.length ≤ 1048576 := by omega
  have hmk := mk75
  clear r0 r1 r2 r3 r4 r5 r6 lpss lpss2 G
  go_enter Try.func36, Try.ntmps36
  go_wp2_with fail
  refine (HC.out g ga0 gc0 pss w lps m0 h0 Q0).mono ?_
  rintro e w1 ⟨⟨b1, d1, b2, d2, rfl, S1, S2⟩, B1⟩
  have S1' : Hid (LRow w1 b1 A0) := by rw [e0.out]; exact S1
  have S2' : Hid (LRow w1 b2 A1) := by rw [e1.out]; exact S2
  rw [← e0.out, ← e1.out]
  have cs1 := sameLists_yes b1 a1 d1 c1 A0 w1 (by omega) mA S1' (R1.out.below B1.out)
  go_wp2_with fail
  refine cs1.mono ?_
  rintro e w2 ⟨rfl, B2⟩
  clear cs1
  have D2 := hid (below_next B1.out B2.out)
  have cs2 := sameL64_yes b2 a2 d2 c2 A1 w2 (by omega) mB (S2'.out.below B2.out) (R2.out.below D2.out)
  go_wp2_with fail
  refine cs2.mono ?_
  rintro e w3 ⟨rfl, B3⟩
  clear cs2
  have D3 := hid (below_next D2.out B3.out)
  have g1 := (D3.out.cell (p := ⟨g, 1, none⟩) lg).trans h1
  have g2 := (D3.out.cell (p := ⟨g, 2, none⟩) lg).trans h2
  have g3 := (D3.out.cell (p := ⟨g, 3, none⟩) lg).trans h3
  have g5 := (D3.out.cell (p := ⟨g, 5, none⟩) lg).trans h5
  have g6 := (D3.out.cell (p := ⟨g, 6, none⟩) lg).trans h6
  go_wp2_with fail
  refine (lists_any g ga1 ga2 ga3 ga5 ga6 hb.length gc1 co.length gc2 cb.length gc3 pb.length gc5 pl.length gc6 w3 g1 g2 g3 g5 g6).mono ?_
  rintro e w4 ⟨rfl, B4⟩
  have D4 := hid (below_next D3.out B4.out)
  clear g1 g2 g3 g5 g6
  have cs3 := sameLists_yes ga1 a3 gc1 c3 hb w4 (by omega) mh (Q1.out.below D4.out) (R3.out.below D4.out)
  go_wp2_with fail
  refine cs3.mono ?_
  rintro e w5 ⟨rfl, B5⟩
  clear cs3
  have D5 := hid (below_next D4.out B5.out)
  have cs4 := sameLists_yes ga2 a4 gc2 c4 co w5 (by omega) mc (Q2.out.below D5.out) (R4.out.below D5.out)
  go_wp2_with fail
  refine cs4.mono ?_
  rintro e w6 ⟨rfl, B6⟩
  clear cs4
  have D6 := hid (below_next D5.out B6.out)
  have cs5 := sameLists_yes ga3 a5 gc3 c5 cb w6 (by omega) mb (Q3.out.below D6.out) (R5.out.below D6.out)
  go_wp2_with fail
  refine cs5.mono ?_
  rintro e w7 ⟨rfl, B7⟩
  clear cs5
  have D7 := hid (below_next D6.out B7.out)
  have cs6 := sameBools_yes ga6 a9 gc6 c9 pl w7 (by omega) (Q6.out.below D7.out) (R9.out.below D7.out)
  go_wp2_with fail
  refine cs6.mono ?_
  rintro e w8 ⟨rfl, B8⟩
  clear cs6
  have D8 := hid (below_next D7.out B8.out)
  go_wp2_with fail
  go_loopw [30] (fun i wr => ∃ k : Nat, k ≤ pb.length ∧ i = .int .i64 k ∧ Hid (Below w.heap.size w wr)) (fun i _ => pb.length - (intOf i).toNat)
  case atStart => exact ⟨0, Nat.zero_le _, rfl, D8⟩
  case round =>
    obtain ⟨k, hk, rfl, HB⟩ := hrel
    by_cases hlt : k < pb.length
    · obtain ⟨bb, off, ai, ci, xs, rfl, d1, _, RI, _, X1, _⟩ := Q5.out.get HB.out hlt
      by_cases hlt7 : k < A7.length
      · obtain ⟨bb', off', ai', ci', ys, rfl, d2, _, RI', _, X2, _⟩ := R8.out.get HB.out hlt7
        obtain rfl : xs = ys := by rw [← X1.out, ← X2.out]; exact hp2.out k
        have hxl : xs.length ≤ 100000000 := by rw [← X2.out]; exact m7.out k
        have k1 := hid (cell_lt' d1)
        have k2 := hid (cell_lt' d2)
        clear X1 X2
        go_wp2_with fail
        go_region_held3 (fun w' => w'.cell? ⟨bb, off + k, none⟩ = some (.slice ai xs.length ci) ∧ w'.cell? ⟨bb', off' + k, none⟩ = some (.slice ai' xs.length ci')) (first | exact ⟨by assumption, by assumption⟩ | go_keep)
          (first
          | (go_at_call 26; refine (sameInts_yes ai ai' ci ci' xs _ hxl ?_ ?_).mono ?_; (exact RI); (exact RI'); rintro e w9 ⟨rfl, B9⟩; (have C9 := hid ((Below.drew (Below.refl _ _)).trans B9.out : Below wr.heap.size wr w9)); (have f1 : w9.cell? ⟨bb, off + k, none⟩ = some (.slice ai xs.length ci) := (C9.out.cell (p := ⟨bb, off + k, none⟩) k1.out).trans d1); (have f2 : w9.cell? ⟨bb', off' + k, none⟩ = some (.slice ai' xs.length ci') := (C9.out.cell (p := ⟨bb', off' + k, none⟩) k2.out).trans d2)))
        have D9 := hid (below_next HB.out C9.out)
        go_wp2_with fail
        go_roundw
        case rel => exact ⟨k + 1, hlt, by go_num, D9⟩
        case measure => simp [intOf]; omega
      · obtain rfl : xs = [] := by
          rw [← X1.out, hp2.out k, List.getD_eq_getElem?_getD, List.getElem?_eq_none (by omega)]; rfl
        clear X1
        go_wp2_with fail
        go_roundw
        case rel => exact ⟨k + 1, hlt, by go_num, HB⟩
        case measure => simp [intOf]; omega
    · obtain ⟨w9, hw9⟩ : ∃ x, x = wr := ⟨_, rfl⟩
      subst hw9
      have hz9 := HB.out.size
      have HM0 := hid (World.ownsMap_made w9 Try.prog 73 (plainElem (H := Unit) Try.prog 3))
      have HBM := hid ((Below.refl w9.heap.size w9).alloc (Nat.le_refl _) (.map #[] 0))
      go_wp2_with fail
      go_loopw [32] (fun i wr => ∃ (k : Nat) (D : DU), k ≤ K5.length ∧ i = .int .i64 k ∧ Hid (FM wr w9.heap.size k D) ∧ Hid (factsD (K5.drop k) (V6.drop k) D = factsD K5 V6 (.map [])) ∧ Hid (Below w9.heap.size w9 wr)) (fun i _ => K5.length - (intOf i).toNat)
      case atStart => exact ⟨0, .map [], Nat.zero_le _, rfl, HM0, rfl, HBM⟩
      case round =>
        obtain ⟨k, D, hk, rfl, HF, HD, HBr⟩ := hrel
        have C := hid (below_next HB.out HBr.out)
        by_cases hlt : k < K5.length
        · have hlt' : k < V6.length := by rw [hkv.out]; exact hlt
          obtain ⟨kb, ko, x, y, rfl, d1, d2, kl1, X1, X2⟩ := R6.out.get C.out hlt
          obtain ⟨vb, vo, z, rfl, d3, _, vl1, Y1, Y2⟩ := R7.out.get C.out hlt'
          have hx := hwk.out (x, y) (mem_drop X1.out)
          have hz := hwv.out z (mem_drop Y1.out)
          have hkey := kl_ok hx
          have hval := plainElem_int (H := Unit) Try.underlying3 hz
          have HN := hid (show factsD (K5.drop (k + 1)) (V6.drop (k + 1)) (D.put (kl (x, y)) (.lit (.int .i64 z))) = factsD K5 V6 (.map []) by rw [← factsD_step D X1.out Y1.out]; exact HD.out)
          have n1 : kb ≠ w9.heap.size := by omega
          have n2 : vb ≠ w9.heap.size := by omega
          clear X1 X2 Y1 Y2 HD
          unfold kv at hkey
          dsimp only at hkey
          obtain ⟨w10, hup, hown1, hgrow1⟩ := (show FM wr.drew w9.heap.size k D from HF.out).update keyed73 Try.underlying75 (by unfold maxLen; omega) hkey hval
          have HF1 := hid hown1
          have HBn : Hid (Below w9.heap.size w9 w10) := HBr.out.drew.grown hgrow1 (HBr.out.size) (fun i hi => by cases hi; exact Nat.le_refl _)
          clear hown1 hgrow1
          go_wp2_with fail
          go_region
          go_wp2_with fail
          go_roundw
          case rel => exact ⟨k + 1, _, hlt, by go_num, HF1, HN, HBn⟩
          case measure => simp [intOf]; omega
        · have HDF := hid (show D = factsD K5 V6 (.map []) by
            have := HD.out
            rw [List.drop_of_length_le (by omega), List.drop_of_length_le (by rw [hkv.out]; omega)] at this
            rw [show factsD [] [] D = D from by unfold factsD; rfl] at this
            exact this)
          obtain ⟨w11, hw11⟩ : ∃ x, x = wr := ⟨_, rfl⟩
          subst hw11
          obtain ⟨DF, hDF⟩ : ∃ X, X = factsD K5 V6 (.map []) := ⟨_, rfl⟩
          have HDFE := hid hDF
          rw [← hDF] at HDF Q4
          clear hDF
          have hDe := HDF.out
          subst hDe
          have g4 := (C.out.cell (p := ⟨g, 4, none⟩) lg).trans h4
          go_wp2_with fail
          refine (factsLen_any g fb fn _ w11 g4 (Q4.out.below C.out)).mono ?_
          rintro e w12 ⟨rfl, B12⟩
          have C12 := hid (below_next HBr.out B12.out)
          have E12 := hid (below_next HB.out C12.out)
          have HF12 := hid (HF.out.below B12.out)
          have hlen := HF12.out.len Try.underlying75
          go_wp2_with fail
          go_loopw [33] (fun i wr => ∃ k : Nat, k ≤ K5.length ∧ i = .int .i64 k ∧ Hid (Below w12.heap.size w12 wr)) (fun i _ => K5.length - (intOf i).toNat)
          case atStart => exact ⟨0, Nat.zero_le _, rfl, Below.refl _ _⟩
          case round =>
            clear hlen
            obtain ⟨k, hk, rfl, HBk⟩ := hrel
            have F := hid (below_next E12.out HBk.out)
            by_cases hlt : k < K5.length
            · obtain ⟨kb, ko, x, y, rfl, d1, d2, kl1, X1, _⟩ := R6.out.get F.out hlt
              have hxm := mem_drop X1.out
              have hx := hwk.out (x, y) hxm
              have hkey := kl_ok hx
              have hhas : Maps.has D (kl (x, y)) = true := by
                have := factsD_has K5 V6 (.map []) hkv.out.symm ⟨[], rfl⟩ hwk.out (x, y) (.inl hxm)
                rw [← HDFE.out] at this; exact this
              have g4' := (F.out.cell (p := ⟨g, 4, none⟩) lg).trans h4
              have cf := fact_any g fb fn _ (x, y) wr hx g4' (Q4.out.below F.out)
              rw [hhas] at cf
              unfold kv at cf hkey
              dsimp only at cf hkey
              have lk1 := hid (cell_lt' d1)
              have CF := hid cf
              clear cf X1
              go_wp2_with fail
              refine CF.out.mono ?_
              rintro e w13 ⟨⟨c, rfl, HC1⟩, B13⟩
              have F13 := hid (below_next HBk.out B13.out)
              have f1 := (B13.out.cell (p := ⟨kb, ko + k * 2, none⟩) lk1.out).trans d1
              have f2 := (B13.out.cell (p := ⟨kb, ko + k * 2 + 1, none⟩) lk1.out).trans d2
              obtain ⟨c', hrun, hat, _⟩ := (HF12.out.below F13.out).lookup_int keyed73 Try.underlying75 Try.underlying3 (zero3 w13) hkey
              have hcc : c' = c := by
                have := hat.symm.trans HC1.out
                simp only [DataW.lit.injEq, Lit.int.injEq, true_and] at this
                exact this
              subst hcc
              clear hat
              go_wp2_with fail
              go_roundw
              case rel => exact ⟨k + 1, hlt, by go_num, F13⟩
              case measure => simp [intOf]; omega
            · have F := hid (below_next E12.out HBk.out)
              go_wp2_with fail
              go_ret
              exact ⟨rfl, F⟩
end Go.Proofs.Qxb6605294a
