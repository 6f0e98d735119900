import Derived.Test.Qxb6605195aUnionLaw
namespace Go.Proofs.Qxb6605195a
open Go.ChangeShapes Go.WideShapes Go.ChangeAt Go.RowKit Plain
set_option linter.unusedVariables false
set_option maxRecDepth 100000

theorem zz_any (a1 a2 : Option Addr) (l1 c1 l2 c2 : Nat) (w : World) (h1 : l1 ≤ 9223372036854775807) (h2 : l2 ≤ 9223372036854775807) :
    Calls Try.prog 16 #[.slice a1 l1 c1, .slice a2 l2 c2] w fun e w' => (∃ b, e = .returned (.bool b)) ∧ w' = w := by
  go_enter Try.func16, Try.ntmps16
  go_wp2
  all_goals
    go_ret
    try exact ⟨⟨_, rfl⟩, rfl⟩

theorem below_next {w w1 w2 : World} (h : Below w.heap.size w w1) (h' : Below w1.heap.size w1 w2) : Below w.heap.size w w2 := h.trans (h'.mono h.size)

theorem dom_yes (a : Option Addr) (cap : Nat) (xs : List (Int × Int)) (w0 w : World) (hm : xs.length ≤ 9223372036854775807) (hr : Hid (PairRow .i32 w0 a xs)) (h0 : Hid (Below w0.heap.size w0 w)) (hd : Hid (Dom xs)) :
    Calls Try.prog 8 #[.slice a xs.length cap] w fun e w' => e = .returned (.bool true) ∧ Hid (Below w0.heap.size w0 w') := by
  refine (dom_any a cap xs w hm (hr.out.below h0.out)).mono ?_
  rintro e w' ⟨rfl, hb⟩
  rw [(domB_iff xs).2 hd.out]
  exact ⟨rfl, below_next h0.out hb⟩
def Got (w' : World) (a : Option Addr) (xs : List (Int × Int)) (c : Nat) : Prop := PairRow .i32 w' a xs ∧ (a = none → xs = [] ∧ c = 0)
theorem Got.below {w w' : World} {a : Option Addr} {xs : List (Int × Int)} {c : Nat} (h : Got w a xs c) (hb : Below w.heap.size w w') : Got w' a xs c := ⟨h.1.below hb, h.2⟩
theorem clone_h (a : Option Addr) (cap : Nat) (xs : List (Int × Int)) (w : World) (hm : xs.length ≤ 1048576) (hr : Hid (Got w a xs cap)) :
    Calls Try.prog 9 #[.slice a xs.length cap] w fun e w' => (∃ a' c', e = .returned (.slice a' xs.length c') ∧ Hid (Got w' a' xs c')) ∧ Hid (Below w.heap.size w w') := by
  refine (clone_any a cap xs w hm hr.out.1 hr.out.2).mono ?_
  rintro e w' ⟨⟨a', c', rfl, hp, _, hn⟩, hb⟩
  exact ⟨⟨a', c', rfl, hp, hn⟩, hb⟩
theorem toRune_h (a : Option Addr) (cap : Nat) (xs : List (Int × Int)) (w : World) (hm : xs.length ≤ 1048576) (hr : Hid (Got w a xs cap)) :
    Calls Try.prog 11 #[.slice a xs.length cap] w fun e w' => (∃ a' c', e = .returned (.slice a' xs.length c') ∧ Hid (Got w' a' xs c')) ∧ Hid (Below w.heap.size w w') := by
  refine (toRune_any a cap xs w hm hr.out.1).mono ?_
  rintro e w' ⟨⟨a', c', rfl, hp, _, hn⟩, hb⟩
  exact ⟨⟨a', c', rfl, hp, hn⟩, hb⟩
/-- a set in memory, with all that the law asks of it -/
def SetFor (w : World) (b : Nat) (M : List (Int × Int)) (g : Nat → Nat) (xs : List (Int × Int)) : Prop :=
  SetAt w b M g ∧ Canon M ∧ Dom M ∧ M.length ≤ xs.length ∧ (∀ c, InR M c ↔ InR xs c) ∧ Bits g (fun x => InR xs (x : Int))
theorem SetFor.below {w w' : World} {b : Nat} {M : List (Int × Int)} {g : Nat → Nat} {xs : List (Int × Int)} (h : SetFor w b M g xs) (hb : Below w.heap.size w w') : SetFor w' b M g xs := ⟨h.1.below hb, h.2⟩
theorem newSet_h (a : Option Addr) (cap : Nat) (xs : List (Int × Int)) (w : World) (hm : xs.length ≤ 1048576) (hd : Hid (Dom xs)) (hr : Hid (Got w a xs cap)) :
    Calls Try.prog 10 #[.slice a xs.length cap] w fun e w' => (∃ b M g, e = .returned (.pointer (some ⟨b, 0, none⟩)) ∧ Hid (SetFor w' b M g xs)) ∧ Hid (Below w.heap.size w w') := by
  have hp := hid hr.out.1
  have hn := hid (fun h => (hr.out.2 h).1)
  go_enter Try.func10, Try.ntmps10
  go_wp2_with fail
  refine (newSet_any a cap xs w hm hd hp hn).mono ?_
  rintro e w' ⟨⟨b, M, g, rfl, h⟩, hb⟩
  have H := hid h
  have HB := hid hb
  clear h hb
  go_wp2_with fail
  go_ret
  exact ⟨⟨b, M, g, rfl, H⟩, HB⟩
theorem union_h (b1 b2 : Nat) (M1 M2 : List (Int × Int)) (g1 g2 : Nat → Nat) (xs ys : List (Int × Int)) (w : World) (hm : xs.length + ys.length ≤ 1048576) (s1 : Hid (SetFor w b1 M1 g1 xs)) (s2 : Hid (SetFor w b2 M2 g2 ys)) :
    Calls Try.prog 17 #[.pointer (some ⟨b1, 0, none⟩), .pointer (some ⟨b2, 0, none⟩)] w fun e w' => (∃ b M g, e = .returned (.pointer (some ⟨b, 0, none⟩)) ∧ Hid (SetFor w' b M g (xs ++ ys))) ∧ Hid (Below w.heap.size w w') := by
  obtain ⟨t1, k1, d1, l1, i1, e1⟩ := s1.out
  obtain ⟨t2, k2, d2, l2, i2, e2⟩ := s2.out
  have hd : Hid (Dom (M1 ++ M2)) := fun r hr => (List.mem_append.1 hr).elim (d1 r) (d2 r)
  have hi : ∀ c, InR (M1 ++ M2) c ↔ InR (xs ++ ys) c := by
    intro c
    have a1 := i1 c
    have a2 := i2 c
    unfold InR at a1 a2 ⊢
    simp only [List.mem_append]
    constructor
    · rintro ⟨r, hr | hr, h⟩
      · obtain ⟨q, hq, h'⟩ := a1.1 ⟨r, hr, h⟩
        exact ⟨q, .inl hq, h'⟩
      · obtain ⟨q, hq, h'⟩ := a2.1 ⟨r, hr, h⟩
        exact ⟨q, .inr hq, h'⟩
    · rintro ⟨r, hr | hr, h⟩
      · obtain ⟨q, hq, h'⟩ := a1.2 ⟨r, hr, h⟩
        exact ⟨q, .inl hq, h'⟩
      · obtain ⟨q, hq, h'⟩ := a2.2 ⟨r, hr, h⟩
        exact ⟨q, .inr hq, h'⟩
  have HI := hid hi
  have T1 := hid t1
  have T2 := hid t2
  clear t1 t2 hi k1 k2 d1 d2 i1 i2 e1 e2
  go_enter Try.func17, Try.ntmps17
  go_wp2_with fail
  refine (union_any b1 b2 M1 M2 g1 g2 w (by omega) T1.out T2.out hd.out).mono ?_
  rintro e w' ⟨⟨b, M, g, rfl, h⟩, hb⟩
  have H := hid h
  have HB := hid hb
  clear h hb
  go_wp2_with fail
  go_ret
  obtain ⟨q1, q2, q3, q4, q5, q6⟩ := H.out
  refine ⟨⟨b, M, g, rfl, q1, q2, q3, ?_, fun c => (q5 c).trans (HI.out c), bits_congr q6 (fun x _ => HI.out x)⟩, HB⟩
  rw [List.length_append] at q4 ⊢
  omega
theorem app_h (a : Option Addr) (cap : Nat) (v : Value) (xs ys zs : List (Int × Int)) (hz : xs ++ ys = zs) (w0 w : World) (hm : xs.length + ys.length ≤ 1048576) (hr : Hid (Got w0 a ys cap)) (h0 : Hid (Below w0.heap.size w0 w)) (hown : Hid (w.ownsRow w0.heap.size 58 2 v xs.length (flat .i32 xs))) :
    Calls Try.prog 18 #[v, .slice a ys.length cap] w fun e w' => (∃ v', e = .returned v' ∧ Hid (w'.ownsRow w0.heap.size 58 2 v' zs.length (flat .i32 zs))) ∧ Hid (Below w0.heap.size w0 w') := by
  subst hz
  refine (app_any a cap v xs ys w0 w hm hr.out.1 h0 hown).mono ?_
  rintro e w' ⟨⟨v', rfl, ho⟩, hb⟩
  exact ⟨⟨v', rfl, ho⟩, hb⟩

set_option maxHeartbeats 4000000 in
theorem main_in (a b : Option Addr) (ca cb : Nat) (xs ys : List (Int × Int)) (w : World) (hx : xs.length ≤ 131072) (hy : ys.length ≤ 131072) (hxy : xs.length + ys.length ≤ 131072)
    (ra : Hid (Got w a xs ca)) (rb : Hid (Got w b ys cb)) (da : Hid (Dom xs)) (db : Hid (Dom ys)) :
    Calls Try.prog 4 #[.slice a xs.length ca, .slice b ys.length cb] w fun e w' => e = .returned (.bool true) ∧ Below w.heap.size w w' := by
  have hneq := neq31
  have heql := eql31
  go_enter Try.func4, Try.ntmps4
  go_wp2_with (first | (go_at_call 16; refine (zz_any a b xs.length ca ys.length cb _ (by omega) (by omega)).mono ?_; rintro e w' ⟨⟨zb, rfl⟩, rfl⟩) | fail)
  · go_ret
    exact ⟨rfl, Below.refl _ _⟩
  · refine (dom_yes a ca xs w' w' (by omega) ra.out.1 (Below.refl _ _) da).mono ?_
    rintro e w1 ⟨rfl, B1⟩
    go_wp2_with fail
    refine (dom_yes b cb ys w' w1 (by omega) rb.out.1 B1 db).mono ?_
    rintro e w2 ⟨rfl, B2⟩
    go_wp2_with fail
    refine (clone_h a ca xs w2 (by omega) (ra.out.below B2.out)).mono ?_
    rintro e w3 ⟨⟨a3, c3, rfl, G3⟩, B3⟩
    have C3 := hid (below_next B2.out B3.out)
    go_wp2_with fail
    refine (clone_h b cb ys w3 (by omega) (rb.out.below C3.out)).mono ?_
    rintro e w4 ⟨⟨a4, c4, rfl, G4⟩, B4⟩
    have C4 := hid (below_next C3.out B4.out)
    have GA := hid (G3.out.below B4.out)
    clear G3
    go_wp2_with fail
    refine (toRune_h a3 c3 xs w4 (by omega) GA).mono ?_
    rintro e w5 ⟨⟨a5, c5, rfl, G5⟩, B5⟩
    go_wp2_with fail
    refine (newSet_h a5 c5 xs w5 (by omega) da G5).mono ?_
    rintro e w6 ⟨⟨b6, M6, g6, rfl, S6⟩, B6⟩
    have C6 := hid (below_next B5.out B6.out)
    go_wp2_with fail
    refine (toRune_h a4 c4 ys w6 (by omega) (G4.out.below C6.out)).mono ?_
    rintro e w7 ⟨⟨a7, c7, rfl, G7⟩, B7⟩
    go_wp2_with fail
    refine (newSet_h a7 c7 ys w7 (by omega) db G7).mono ?_
    rintro e w8 ⟨⟨b8, M8, g8, rfl, S8⟩, B8⟩
    have C8 := hid (below_next B7.out B8.out)
    have SA := hid (S6.out.below C8.out)
    clear S6
    go_wp2_with fail
    refine (union_h b6 b8 M6 M8 g6 g8 xs ys w8 (by omega) SA S8).mono ?_
    rintro e w9 ⟨⟨b9, M9, g9, rfl, S9⟩, B9⟩
    have SA9 := hid (SA.out.below B9.out)
    have SB9 := hid (S8.out.below B9.out)
    have C9 := hid (below_next C6.out (below_next C8.out B9.out))
    obtain ⟨zs, hzs⟩ : ∃ zs, xs ++ ys = zs := ⟨_, rfl⟩
    have hzl := hid (show zs.length = xs.length + ys.length by rw [← hzs, List.length_append])
    have hz1 : zs.length ≤ 131072 := by have := hzl.out; omega
    have dz : Hid (Dom zs) := by rw [← hzs]; exact fun r hr => (List.mem_append.1 hr).elim (da.out r) (db.out r)
    have SU9 : Hid (SetFor w9 b9 M9 g9 zs) := by rw [← hzs]; exact S9
    have HZ := hid hzs
    clear SA S8 S9 hzs
    go_wp2_with fail
    refine (app_h a3 c3 (.slice none 0 0) [] xs xs rfl w9 w9 (by simp; omega) (GA.out.below C9.out) (Below.refl _ _) (World.ownsRow_nil _ _ _ _)).mono ?_
    rintro e w10 ⟨⟨v10, rfl, O10⟩, B10⟩
    go_wp2_with fail
    refine (app_h a4 c4 v10 xs ys zs HZ.out w9 w10 (by omega) (G4.out.below C9.out) B10 O10).mono ?_
    rintro e w11 ⟨⟨v11, rfl, O11⟩, B11⟩
    obtain ⟨a11, c11, hv, P11, _, _⟩ := pairRow_own O11.out
    have G11 := hid P11
    clear P11 O11 O10
    subst hv
    have SA11 := hid (SA9.out.below B11.out)
    have SB11 := hid (SB9.out.below B11.out)
    have SU11 := hid (SU9.out.below B11.out)
    have GA11 := hid (GA.out.below (below_next C9.out B11.out))
    have GB11 := hid (G4.out.below (below_next C9.out B11.out))
    have C11 := hid (below_next (below_next C4.out C9.out) B11.out)
    clear SA9 SB9 SU9 GA G4
    go_wp2_with fail
    refine (data_eq b9 M9 g9 w11 (by have := SU11.out.2.2.2.1; omega) SU11.out.1).mono ?_
    rintro e w12 ⟨⟨p1, k1, p2, k2, rfl, I1, I2⟩, B12⟩
    go_wp2_with fail
    obtain ⟨n12, hn12⟩ : ∃ n, n = w12.heap.size := ⟨_, rfl⟩
    obtain ⟨W, hW⟩ : ∃ W, W = w12.alloc (Obj.cells #[Value.int IntKind.u64 ↑(g9 0), Value.int IntKind.u64 ↑(g9 1)] 31) := ⟨_, rfl⟩
    have q0 : W.cell? ⟨n12, 0, none⟩ = some (.int .u64 (g9 0 : Nat)) := by rw [hW, hn12]; simp [go_sem]
    have q1 : W.cell? ⟨n12, 1, none⟩ = some (.int .u64 (g9 1 : Nat)) := by rw [hW, hn12]; simp [go_sem]
    have ql : n12 < W.heap.size := by rw [hW, hn12]; simp
    have BW : Hid (Below w11.heap.size w11 W) := by rw [hW]; exact B12.out.alloc B12.out.size _
    have BV : Hid (Below w12.heap.size w12 W) := by rw [hW]; exact (Below.refl _ _).alloc (Nat.le_refl _) _
    rw [← hW, ← hn12]
    clear hW hn12
    have J1 := hid (I1.out.below BV.out)
    have J2 := hid (I2.out.below BV.out)
    have GW := hid (G11.out.below BW.out)
    have hM9 := hid (show Canon M9 ∧ ∀ c, InR M9 c ↔ InR zs c from ⟨SU11.out.2.1, SU11.out.2.2.2.2.1⟩)
    have hG9 := hid (show Bits g9 (fun x => InR zs (x : Int)) from SU11.out.2.2.2.2.2)
    have hl9 : M9.length ≤ 131072 := by have := SU11.out.2.2.2.1; omega
    go_region_held3 (fun w' => w'.cell? ⟨n12, 0, none⟩ = some (.int .u64 (g9 0 : Nat)) ∧ w'.cell? ⟨n12, 1, none⟩ = some (.int .u64 (g9 1 : Nat))) (first | exact ⟨by assumption, by assumption⟩ | go_keep)
      (first
      | (go_at_call 14; refine (cover_eq a11 c11 zs M9 W _ (by omega) dz GW ?_ hM9).mono ?_; (exact Below.drew (Below.refl _ _)); rintro e w13 ⟨⟨a13, c13, rfl, P13⟩, B13⟩; (have q0' : w13.cell? ⟨n12, 0, none⟩ = some (.int .u64 (g9 0 : Nat)) := (B13.out.cell (p := ⟨n12, 0, none⟩) ql).trans q0); (have q1' : w13.cell? ⟨n12, 1, none⟩ = some (.int .u64 (g9 1 : Nat)) := (B13.out.cell (p := ⟨n12, 1, none⟩) ql).trans q1))
      | (go_at_call 13; refine (same_yes p1 p2 a13 k1 k2 c13 M9 w13 (by omega) (J1.out.below ((Below.drew (Below.refl _ _)).trans B13.out)) (J2.out.below ((Below.drew (Below.refl _ _)).trans B13.out)) P13).mono ?_; rintro e w14 ⟨rfl, b14⟩; (have B14 := hid b14); clear b14; (have D14 := hid (below_next ((Below.drew (Below.refl _ _)).trans B13.out : Below W.heap.size W w13) B14.out)); (have q0'' : w14.cell? ⟨n12, 0, none⟩ = some (.int .u64 (g9 0 : Nat)) := (D14.out.cell (p := ⟨n12, 0, none⟩) ql).trans q0); (have q1'' : w14.cell? ⟨n12, 1, none⟩ = some (.int .u64 (g9 1 : Nat)) := (D14.out.cell (p := ⟨n12, 1, none⟩) ql).trans q1))
      | (go_at_call 15; refine (ascii_eq a11 c11 zs g9 W w14 (by omega) dz GW D14 hG9).mono ?_; rintro e w15 ⟨rfl, B15⟩; (have D15 := hid (below_next D14.out B15.out)); (have q0z : w15.cell? ⟨n12, 0, none⟩ = some (.int .u64 (g9 0 : Nat)) := (D15.out.cell (p := ⟨n12, 0, none⟩) ql).trans q0); (have q1z : w15.cell? ⟨n12, 1, none⟩ = some (.int .u64 (g9 1 : Nat)) := (D15.out.cell (p := ⟨n12, 1, none⟩) ql).trans q1)))
    have E15 := hid (below_next BW.out D15.out)
    have SA15 := hid (SA11.out.below E15.out)
    have SB15 := hid (SB11.out.below E15.out)
    have GA15 := hid (GA11.out.below E15.out)
    have GB15 := hid (GB11.out.below E15.out)
    clear q0 q1 q0' q1' q0'' q1'' q0z q1z SA11 SB11 SU11 GA11 GB11 J1 J2 I1 I2 GW G11 P13 hM9 hG9
    have C15 := hid (below_next C11.out E15.out)
    go_wp2_with fail
    refine (data_eq b6 M6 g6 w15 (by have := SA15.out.2.2.2.1; omega) SA15.out.1).mono ?_
    rintro e w16 ⟨⟨p3, k3, p4, k4, rfl, I3, I4⟩, B16⟩
    go_wp2_with fail
    obtain ⟨n16, hn16⟩ : ∃ n, n = w16.heap.size := ⟨_, rfl⟩
    obtain ⟨V, hV⟩ : ∃ W, W = w16.alloc (Obj.cells #[Value.int IntKind.u64 ↑(g6 0), Value.int IntKind.u64 ↑(g6 1)] 31) := ⟨_, rfl⟩
    have t0 : V.cell? ⟨n16, 0, none⟩ = some (.int .u64 (g6 0 : Nat)) := by rw [hV, hn16]; simp [go_sem]
    have t1 : V.cell? ⟨n16, 1, none⟩ = some (.int .u64 (g6 1 : Nat)) := by rw [hV, hn16]; simp [go_sem]
    have tl : n16 < V.heap.size := by rw [hV, hn16]; simp
    have BV1 : Hid (Below w15.heap.size w15 V) := by rw [hV]; exact B16.out.alloc B16.out.size _
    have BV2 : Hid (Below w16.heap.size w16 V) := by rw [hV]; exact (Below.refl _ _).alloc (Nat.le_refl _) _
    rw [← hV, ← hn16]
    clear hV hn16
    have SBV := hid (SB15.out.below BV1.out)
    refine (data_eq b8 M8 g8 V (by have := SBV.out.2.2.2.1; omega) SBV.out.1).mono ?_
    rintro e w17 ⟨⟨p5, k5, p6, k6, rfl, I5, I6⟩, B17⟩
    go_wp2_with fail
    obtain ⟨n17, hn17⟩ : ∃ n, n = w17.heap.size := ⟨_, rfl⟩
    obtain ⟨U, hU⟩ : ∃ W, W = w17.alloc (Obj.cells #[Value.int IntKind.u64 ↑(g8 0), Value.int IntKind.u64 ↑(g8 1)] 31) := ⟨_, rfl⟩
    have r2 : U.cell? ⟨n17, 0, none⟩ = some (.int .u64 (g8 0 : Nat)) := by rw [hU, hn17]; simp [go_sem]
    have r3 : U.cell? ⟨n17, 1, none⟩ = some (.int .u64 (g8 1 : Nat)) := by rw [hU, hn17]; simp [go_sem]
    have ln17 : n17 < U.heap.size := by rw [hU, hn17]; simp
    have BU1 : Hid (Below V.heap.size V U) := by rw [hU]; exact B17.out.alloc B17.out.size _
    have BU2 : Hid (Below w17.heap.size w17 U) := by rw [hU]; exact (Below.refl _ _).alloc (Nat.le_refl _) _
    rw [← hU, ← hn17]
    clear hU hn17
    have r0 : U.cell? ⟨n16, 0, none⟩ = some (.int .u64 (g6 0 : Nat)) := (BU1.out.cell (p := ⟨n16, 0, none⟩) tl).trans t0
    have r1 : U.cell? ⟨n16, 1, none⟩ = some (.int .u64 (g6 1 : Nat)) := (BU1.out.cell (p := ⟨n16, 1, none⟩) tl).trans t1
    have ln16 : n16 < U.heap.size := Nat.lt_of_lt_of_le tl BU1.out.size
    have BU := hid (below_next BV1.out BU1.out)
    have L1 := hid (I3.out.below (below_next BV2.out BU1.out))
    have L2 := hid (I4.out.below (below_next BV2.out BU1.out))
    have L3 := hid (I5.out.below BU2.out)
    have L4 := hid (I6.out.below BU2.out)
    have GAU := hid (GA15.out.below BU.out).1
    have GBU := hid (GB15.out.below BU.out).1
    have hM6 := hid (show Canon M6 ∧ ∀ c, InR M6 c ↔ InR xs c from ⟨SA15.out.2.1, SA15.out.2.2.2.2.1⟩)
    have hG6 := hid (show Bits g6 (fun x => InR xs (x : Int)) from SA15.out.2.2.2.2.2)
    have hl6 : M6.length ≤ 131072 := by have := SA15.out.2.2.2.1; omega
    have hM8 := hid (show Canon M8 ∧ ∀ c, InR M8 c ↔ InR ys c from ⟨SBV.out.2.1, SBV.out.2.2.2.2.1⟩)
    have hG8 := hid (show Bits g8 (fun x => InR ys (x : Int)) from SBV.out.2.2.2.2.2)
    have hl8 : M8.length ≤ 131072 := by have := SBV.out.2.2.2.1; omega
    have CU := hid (below_next C15.out BU.out)
    clear t0 t1 I3 I4 I5 I6 SA15 SB15 SBV GA15 GB15
    go_region_held3 (fun w' => w'.cell? ⟨n16, 0, none⟩ = some (.int .u64 (g6 0 : Nat)) ∧ w'.cell? ⟨n16, 1, none⟩ = some (.int .u64 (g6 1 : Nat)) ∧ w'.cell? ⟨n17, 0, none⟩ = some (.int .u64 (g8 0 : Nat)) ∧ w'.cell? ⟨n17, 1, none⟩ = some (.int .u64 (g8 1 : Nat))) (first | exact ⟨by assumption, by assumption, by assumption, by assumption⟩ | go_keep)
      (first
      | (have _hq := D24; clear _hq; go_at_call 15; refine (ascii_eq a4 c4 ys g8 U w24 (by omega) db GBU D24 hG8).mono ?_; rintro e w25 ⟨rfl, B25⟩; (have D25 := hid (below_next D24.out B25.out)); (have r0f : w25.cell? ⟨n16, 0, none⟩ = some (.int .u64 (g6 0 : Nat)) := (D25.out.cell (p := ⟨n16, 0, none⟩) ln16).trans r0); (have r1f : w25.cell? ⟨n16, 1, none⟩ = some (.int .u64 (g6 1 : Nat)) := (D25.out.cell (p := ⟨n16, 1, none⟩) ln16).trans r1); (have r2f : w25.cell? ⟨n17, 0, none⟩ = some (.int .u64 (g8 0 : Nat)) := (D25.out.cell (p := ⟨n17, 0, none⟩) ln17).trans r2); (have r3f : w25.cell? ⟨n17, 1, none⟩ = some (.int .u64 (g8 1 : Nat)) := (D25.out.cell (p := ⟨n17, 1, none⟩) ln17).trans r3))
      | (have _hq := D23; clear _hq; go_at_call 13; refine (same_yes p5 p6 a23 k5 k6 c23 M8 w23 (by omega) (L3.out.below D23.out) (L4.out.below D23.out) P23).mono ?_; rintro e w24 ⟨rfl, b24⟩; (have D24 := hid (below_next D23.out b24)); clear b24; (have r0e : w24.cell? ⟨n16, 0, none⟩ = some (.int .u64 (g6 0 : Nat)) := (D24.out.cell (p := ⟨n16, 0, none⟩) ln16).trans r0); (have r1e : w24.cell? ⟨n16, 1, none⟩ = some (.int .u64 (g6 1 : Nat)) := (D24.out.cell (p := ⟨n16, 1, none⟩) ln16).trans r1); (have r2e : w24.cell? ⟨n17, 0, none⟩ = some (.int .u64 (g8 0 : Nat)) := (D24.out.cell (p := ⟨n17, 0, none⟩) ln17).trans r2); (have r3e : w24.cell? ⟨n17, 1, none⟩ = some (.int .u64 (g8 1 : Nat)) := (D24.out.cell (p := ⟨n17, 1, none⟩) ln17).trans r3))
      | (have _hq := D22; clear _hq; go_at_call 14; refine (cover_eq a4 c4 ys M8 U w22 (by omega) db GBU D22 hM8).mono ?_; rintro e w23 ⟨⟨a23, c23, rfl, P23⟩, B23⟩; (have D23 := hid (below_next D22.out B23.out)); (have r0d : w23.cell? ⟨n16, 0, none⟩ = some (.int .u64 (g6 0 : Nat)) := (D23.out.cell (p := ⟨n16, 0, none⟩) ln16).trans r0); (have r1d : w23.cell? ⟨n16, 1, none⟩ = some (.int .u64 (g6 1 : Nat)) := (D23.out.cell (p := ⟨n16, 1, none⟩) ln16).trans r1); (have r2d : w23.cell? ⟨n17, 0, none⟩ = some (.int .u64 (g8 0 : Nat)) := (D23.out.cell (p := ⟨n17, 0, none⟩) ln17).trans r2); (have r3d : w23.cell? ⟨n17, 1, none⟩ = some (.int .u64 (g8 1 : Nat)) := (D23.out.cell (p := ⟨n17, 1, none⟩) ln17).trans r3))
      | (have _hq := D21; clear _hq; go_at_call 15; refine (ascii_eq a3 c3 xs g6 U w21 (by omega) da GAU D21 hG6).mono ?_; rintro e w22 ⟨rfl, B22⟩; (have D22 := hid (below_next D21.out B22.out)); (have r0c : w22.cell? ⟨n16, 0, none⟩ = some (.int .u64 (g6 0 : Nat)) := (D22.out.cell (p := ⟨n16, 0, none⟩) ln16).trans r0); (have r1c : w22.cell? ⟨n16, 1, none⟩ = some (.int .u64 (g6 1 : Nat)) := (D22.out.cell (p := ⟨n16, 1, none⟩) ln16).trans r1); (have r2c : w22.cell? ⟨n17, 0, none⟩ = some (.int .u64 (g8 0 : Nat)) := (D22.out.cell (p := ⟨n17, 0, none⟩) ln17).trans r2); (have r3c : w22.cell? ⟨n17, 1, none⟩ = some (.int .u64 (g8 1 : Nat)) := (D22.out.cell (p := ⟨n17, 1, none⟩) ln17).trans r3))
      | (have _hq := D20; clear _hq; go_at_call 13; refine (same_yes p3 p4 a20 k3 k4 c20 M6 w20 (by omega) (L1.out.below D20.out) (L2.out.below D20.out) P20).mono ?_; rintro e w21 ⟨rfl, b21⟩; (have D21 := hid (below_next D20.out b21)); clear b21; (have r0b : w21.cell? ⟨n16, 0, none⟩ = some (.int .u64 (g6 0 : Nat)) := (D21.out.cell (p := ⟨n16, 0, none⟩) ln16).trans r0); (have r1b : w21.cell? ⟨n16, 1, none⟩ = some (.int .u64 (g6 1 : Nat)) := (D21.out.cell (p := ⟨n16, 1, none⟩) ln16).trans r1); (have r2b : w21.cell? ⟨n17, 0, none⟩ = some (.int .u64 (g8 0 : Nat)) := (D21.out.cell (p := ⟨n17, 0, none⟩) ln17).trans r2); (have r3b : w21.cell? ⟨n17, 1, none⟩ = some (.int .u64 (g8 1 : Nat)) := (D21.out.cell (p := ⟨n17, 1, none⟩) ln17).trans r3))
      | (go_at_call 14; refine (cover_eq a3 c3 xs M6 U _ (by omega) da GAU ?_ hM6).mono ?_; (exact Below.drew (Below.refl _ _)); rintro e w20 ⟨⟨a20, c20, rfl, P20⟩, B20⟩; (have D20 := hid ((Below.drew (Below.refl _ _)).trans B20.out : Below U.heap.size U w20)); (have r0a : w20.cell? ⟨n16, 0, none⟩ = some (.int .u64 (g6 0 : Nat)) := (D20.out.cell (p := ⟨n16, 0, none⟩) ln16).trans r0); (have r1a : w20.cell? ⟨n16, 1, none⟩ = some (.int .u64 (g6 1 : Nat)) := (D20.out.cell (p := ⟨n16, 1, none⟩) ln16).trans r1); (have r2a : w20.cell? ⟨n17, 0, none⟩ = some (.int .u64 (g8 0 : Nat)) := (D20.out.cell (p := ⟨n17, 0, none⟩) ln17).trans r2); (have r3a : w20.cell? ⟨n17, 1, none⟩ = some (.int .u64 (g8 1 : Nat)) := (D20.out.cell (p := ⟨n17, 1, none⟩) ln17).trans r3)))
    go_wp2_with fail
    go_ret
    exact ⟨rfl, below_next CU.out D25.out⟩

theorem main_long (a b : Option Addr) (ca cb la lb : Nat) (w : World) (h1 : la ≤ 9223372036854775807) (h2 : lb ≤ 9223372036854775807)
    (h : 131072 < la ∨ (la ≤ 131072 ∧ 131072 < lb) ∨ (la ≤ 131072 ∧ lb ≤ 131072 ∧ 131072 < la + lb)) :
    Calls Try.prog 4 #[.slice a la ca, .slice b lb cb] w fun e w' => e = .returned (.bool true) ∧ Below w.heap.size w w' := by
  rcases h with k | ⟨k, k'⟩ | ⟨k, k', k''⟩
  all_goals
    go_enter Try.func4, Try.ntmps4
    go_wp2_with (first | (go_at_call 16; refine (zz_any a b la ca lb cb _ (by omega) (by omega)).mono ?_; rintro e w' ⟨⟨zb, rfl⟩, rfl⟩) | fail)
    all_goals
      go_ret
      exact ⟨rfl, Below.refl _ _⟩
theorem dom_no (a : Option Addr) (cap : Nat) (xs : List (Int × Int)) (w0 w : World) (hm : xs.length ≤ 9223372036854775807) (hr : Hid (PairRow .i32 w0 a xs)) (h0 : Hid (Below w0.heap.size w0 w)) (hd : Hid (¬ Dom xs)) :
    Calls Try.prog 8 #[.slice a xs.length cap] w fun e w' => e = .returned (.bool false) ∧ Hid (Below w0.heap.size w0 w') := by
  refine (dom_any a cap xs w hm (hr.out.below h0.out)).mono ?_
  rintro e w' ⟨rfl, hb⟩
  rw [show domB xs = false by rw [← Bool.not_eq_true]; exact fun h => hd.out ((domB_iff xs).1 h)]
  exact ⟨rfl, below_next h0.out hb⟩
set_option maxHeartbeats 1000000 in
theorem main_dom (a b : Option Addr) (ca cb : Nat) (xs ys : List (Int × Int)) (w : World) (hx : xs.length ≤ 131072) (hy : ys.length ≤ 131072) (hxy : xs.length + ys.length ≤ 131072)
    (ra : Hid (Got w a xs ca)) (rb : Hid (Got w b ys cb)) (hd : Hid (¬ Dom xs) ∨ (Hid (Dom xs) ∧ Hid (¬ Dom ys))) :
    Calls Try.prog 4 #[.slice a xs.length ca, .slice b ys.length cb] w fun e w' => e = .returned (.bool true) ∧ Below w.heap.size w w' := by
  rcases hd with da | ⟨da, db⟩
  · go_enter Try.func4, Try.ntmps4
    go_wp2_with (first | (go_at_call 16; refine (zz_any a b xs.length ca ys.length cb _ (by omega) (by omega)).mono ?_; rintro e w' ⟨⟨zb, rfl⟩, rfl⟩) | fail)
    · go_ret
      exact ⟨rfl, Below.refl _ _⟩
    · refine (dom_no a ca xs w' w' (by omega) ra.out.1 (Below.refl _ _) da).mono ?_
      rintro e w1 ⟨rfl, B1⟩
      go_wp2_with fail
      go_ret
      exact ⟨rfl, B1.out⟩
  · go_enter Try.func4, Try.ntmps4
    go_wp2_with (first | (go_at_call 16; refine (zz_any a b xs.length ca ys.length cb _ (by omega) (by omega)).mono ?_; rintro e w' ⟨⟨zb, rfl⟩, rfl⟩) | fail)
    · go_ret
      exact ⟨rfl, Below.refl _ _⟩
    · refine (dom_yes a ca xs w' w' (by omega) ra.out.1 (Below.refl _ _) da).mono ?_
      rintro e w1 ⟨rfl, B1⟩
      go_wp2_with fail
      refine (dom_no b cb ys w' w1 (by omega) rb.out.1 B1 db).mono ?_
      rintro e w2 ⟨rfl, B2⟩
      go_wp2_with fail
      go_ret
      exact ⟨rfl, B2.out⟩
theorem main_any (a b : Option Addr) (ca cb : Nat) (xs ys : List (Int × Int)) (w : World) (hx : xs.length ≤ 9223372036854775807) (hy : ys.length ≤ 9223372036854775807)
    (ra : Hid (Got w a xs ca)) (rb : Hid (Got w b ys cb)) :
    Calls Try.prog 4 #[.slice a xs.length ca, .slice b ys.length cb] w fun e w' => e = .returned (.bool true) ∧ Below w.heap.size w w' := by
  by_cases h : xs.length ≤ 131072 ∧ ys.length ≤ 131072 ∧ xs.length + ys.length ≤ 131072
  · obtain ⟨h1, h2, h3⟩ := h
    by_cases da : Dom xs
    · by_cases db : Dom ys
      · exact main_in a b ca cb xs ys w h1 h2 h3 ra rb da db
      · exact main_dom a b ca cb xs ys w h1 h2 h3 ra rb (.inr ⟨da, db⟩)
    · exact main_dom a b ca cb xs ys w h1 h2 h3 ra rb (.inl da)
  · exact main_long a b ca cb xs.length ys.length w hx hy (by omega)
end Go.Proofs.Qxb6605195a
