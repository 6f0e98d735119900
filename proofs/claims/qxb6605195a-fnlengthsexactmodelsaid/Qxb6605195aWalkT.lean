import Derived.Test.Qxb6605195aWalkA
import Derived.Deep.Light
set_option maxRecDepth 100000
namespace Go.Proofs.Qxb6605195a
open Go.ChangeShapes Go.WideShapes Go.ChangeAt Go.RowKit Plain
set_option linter.unusedVariables false

set_option maxHeartbeats 4000000 in
theorem walk_node {w0 : World} {b off : Nat} {op mn mx : Int} {set : List (Int × Int)} {sa : Option Addr} {sc : Nat} {subs : List Tr} {ua : Option Addr} {uc : Nat} {ps : Nat → Option Addr} (fl : Bool) (left : Int)
    (HP : Hid (0 < subs.length → ∃ ub uo, ua = some ⟨ub, uo, none⟩ ∧ ∀ i, i < subs.length → w0.cell? ⟨ub, uo + i, none⟩ = some (.pointer (ps i))))
    (HI : Hid (∀ i, i < subs.length → ∀ (fl : Bool) (left : Int) (w : World), Hid (Below w0.heap.size w0 w) → Calls Try.prog 19 #[.pointer (ps i), .int .i64 left, .bool fl] w fun e w' => RetWalk fl (kid subs i) e ∧ Hid (Below w.heap.size w w')))
    (w : World) (HB : Hid (Below w0.heap.size w0 w))
    (k0 : w.cell? ⟨b, off, none⟩ = some (.int .u8 op)) (k1 : w.cell? ⟨b, off + 1, none⟩ = some (.slice sa set.length sc)) (k2 : w.cell? ⟨b, off + 2, none⟩ = some (.slice ua subs.length uc)) (k4 : w.cell? ⟨b, off + 4, none⟩ = some (.int .i64 mx))
    (HPR : Hid (PairRow .i32 w sa set))
    (b1 : set.length ≤ 9223372036854775807) (b2 : subs.length ≤ 9223372036854775807) (b4 : -9223372036854775808 ≤ mx ∧ mx ≤ 9223372036854775807) :
    Calls Try.prog 19 #[.pointer (some ⟨b, off, none⟩), .int .i64 left, .bool fl] w fun e w' => RetWalk fl (.node op set subs mn mx) e ∧ Hid (Below w.heap.size w w') := by
  have lb := cell_lt' k0
  go_enter Try.func19, Try.ntmps19
  go_upto_region 2 with fail
  by_cases hleft : left < 1
  · go_wp2_with fail
    exact walk_end rfl rfl (two_zero w).1 ⟨retWalk_no, (two_zero w).2.2.1⟩
  · obtain ⟨HZ, HY, HBW, hsz⟩ := two_zero w
    go_upto_region 4 with fail
    obtain ⟨W, hW⟩ : ∃ W, W = ((w.alloc (.cells #[.int .i64 0, .int .i64 0, .int .i64 0, .int .i64 0] 41)).alloc (.cells #[.int .i64 0, .int .i64 0, .int .i64 0, .int .i64 0] 41)) := ⟨_, rfl⟩
    rw [← hW] at HZ HY HBW hsz ⊢
    clear hW
    have HZ' := hid HZ
    have HY' := hid HY
    have HB' := hid HBW
    have HPW := hid (HPR.out.below HBW)
    by_cases hs1 : set.length ≤ 131072
    · by_cases hs2 : subs.length ≤ 131072
      · have q0 := (HBW.cell (p := ⟨b, off, none⟩) lb).trans k0
        have q1 := (HBW.cell (p := ⟨b, off + 1, none⟩) lb).trans k1
        have q2 := (HBW.cell (p := ⟨b, off + 2, none⟩) lb).trans k2
        clear HZ HY HBW
        go_wp2_with fail
        refine (dom_any sa sc set W b1 HPW).mono ?_
        rintro e w1 ⟨rfl, B1⟩
        have HB1 := hid (below_next HB'.out B1)
        have HZ1 := hid (HZ'.out.below B1)
        have HY1 := hid (HY'.out.below B1)
        clear q0 q1 q2 B1 HPW
        have HF1 := hid HZ1.out
        obtain ⟨z0, z1, z2, z3, f0, f1, f2, f3⟩ := HZ1.out
        obtain ⟨y0, y1, y2, y3, _, _, _, _⟩ := HY1.out
        have q0 := (HB1.out.cell (p := ⟨b, off, none⟩) lb).trans k0
        have q1 := (HB1.out.cell (p := ⟨b, off + 1, none⟩) lb).trans k1
        have q2 := (HB1.out.cell (p := ⟨b, off + 2, none⟩) lb).trans k2
        have q4 := (HB1.out.cell (p := ⟨b, off + 4, none⟩) lb).trans k4
        obtain ⟨db, hdb⟩ : ∃ d, d = domB set := ⟨_, rfl⟩
        rw [← hdb]
        have HDB := hid hdb
        clear hdb
        cases db
        · go_wp2_with fail
          exact walk_no rfl rfl HF1.out HB1.out
        · go_upto_region 8 with fail
          go_cut [62] from 43 to 62 (fun c wx => c = .bool (decide ((op = 5 ∨ op = 9) ∧ subs.length = 0)) ∧ w1 = wx)
          case first =>
            by_cases e5 : op = 5
            · have e5' : (op == 5) = true := by simp [e5]
              by_cases en : subs.length = 0
              · have en' : ((subs.length : Int) == 0) = true := by simp [en]
                have en2 : decide ((op = 5 ∨ op = 9) ∧ subs.length = 0) = true := by simp [e5, en]
                clear e5 en
                go_wp2_with fail
                go_meet
                exact ⟨congrArg Value.bool en2.symm, rfl⟩
              · have en' : ((subs.length : Int) == 0) = false := by simpa using en
                have en2 : decide ((op = 5 ∨ op = 9) ∧ subs.length = 0) = false := by simp [en]
                clear e5 en
                go_wp2_with fail
                go_meet
                exact ⟨congrArg Value.bool en2.symm, rfl⟩
            · have e5' : (op == 5) = false := by simp [e5]
              by_cases e9 : op = 9
              · have e9' : (op == 9) = true := by simp [e9]
                by_cases en : subs.length = 0
                · have en' : ((subs.length : Int) == 0) = true := by simp [en]
                  have en2 : decide ((op = 5 ∨ op = 9) ∧ subs.length = 0) = true := by simp [e9, en]
                  clear e5 e9 en
                  go_wp2_with fail
                  go_meet
                  exact ⟨congrArg Value.bool en2.symm, rfl⟩
                · have en' : ((subs.length : Int) == 0) = false := by simpa using en
                  have en2 : decide ((op = 5 ∨ op = 9) ∧ subs.length = 0) = false := by simp [en]
                  clear e5 e9 en
                  go_wp2_with fail
                  go_meet
                  exact ⟨congrArg Value.bool en2.symm, rfl⟩
              · have e9' : (op == 9) = false := by simp [e9]
                have en2 : decide ((op = 5 ∨ op = 9) ∧ subs.length = 0) = false := by simp [e5, e9]
                clear e5 e9
                go_wp2_with fail
                go_meet
                exact ⟨congrArg Value.bool en2.symm, rfl⟩
          case rest =>
            obtain ⟨rfl, hwc⟩ := hcut
            subst hwc
            obtain ⟨c8, hc8⟩ : ∃ c, c = decide ((op = 5 ∨ op = 9) ∧ subs.length = 0) := ⟨_, rfl⟩
            rw [← hc8]
            have HC8 := hid hc8
            clear hc8
            cases c8
            case true =>
              go_wp2_with fail
              exact walk_no rfl rfl HF1.out HB1.out
            case false =>
              go_upto_region 10 with fail
              go_cut [2, 87] from 64 to 87 (fun f c wx => f = .bool fl ∧ c = .bool (decide (op = 4 ∧ subs.length = 0 ∧ (fl = false ∨ 0 ≤ mx))) ∧ w1 = wx)
              case first =>
                by_cases e4 : op = 4
                · have e4' : (op == 4) = true := by simp [e4]
                  by_cases en : subs.length = 0
                  · have en' : ((subs.length : Int) == 0) = true := by simp [en]
                    by_cases hf : fl = false
                    · have en2 : decide (op = 4 ∧ subs.length = 0 ∧ (fl = false ∨ 0 ≤ mx)) = true := by simp [e4, en, hf]
                      have en3 := hid hf
                      clear e4 en
                      go_wp2_with fail
                      go_meet
                      exact ⟨by first | rfl | exact congrArg Value.bool en3.out.symm, congrArg Value.bool en2.symm, rfl⟩
                    · have hf' : fl = true := by simpa using hf
                      by_cases hm : 0 ≤ mx
                      · have hm' : decide (0 ≤ mx) = true := by simp [hm]
                        have en2 : decide (op = 4 ∧ subs.length = 0 ∧ (fl = false ∨ 0 ≤ mx)) = true := by simp [e4, en, hm]
                        have en3 := hid hf'
                        clear e4 en hm hf
                        go_wp2_with fail
                        go_meet
                        exact ⟨by first | rfl | exact congrArg Value.bool en3.out.symm, congrArg Value.bool en2.symm, rfl⟩
                      · have hm' : decide (0 ≤ mx) = false := by simp [hm]
                        have en2 : decide (op = 4 ∧ subs.length = 0 ∧ (fl = false ∨ 0 ≤ mx)) = false := by simp [hf, hm]
                        have en3 := hid hf'
                        clear e4 en hm hf
                        go_wp2_with fail
                        go_meet
                        exact ⟨by first | rfl | exact congrArg Value.bool en3.out.symm, congrArg Value.bool en2.symm, rfl⟩
                  · have en' : ((subs.length : Int) == 0) = false := by simpa using en
                    have en2 : decide (op = 4 ∧ subs.length = 0 ∧ (fl = false ∨ 0 ≤ mx)) = false := by simp [en]
                    clear e4 en
                    go_wp2_with fail
                    go_meet
                    exact ⟨rfl, congrArg Value.bool en2.symm, rfl⟩
                · have e4' : (op == 4) = false := by simp [e4]
                  have en2 : decide (op = 4 ∧ subs.length = 0 ∧ (fl = false ∨ 0 ≤ mx)) = false := by simp [e4]
                  clear e4
                  go_wp2_with fail
                  go_meet
                  exact ⟨rfl, congrArg Value.bool en2.symm, rfl⟩
              case rest =>
                obtain ⟨rfl, rfl, hwc⟩ := hcut
                subst hwc
                obtain ⟨c10, hc10⟩ : ∃ c, c = decide (op = 4 ∧ subs.length = 0 ∧ (fl = false ∨ 0 ≤ mx)) := ⟨_, rfl⟩
                rw [← hc10]
                have HC10 := hid hc10
                clear hc10
                cases c10
                case true =>
                  go_wp2_with fail
                  exact walk_no rfl rfl HF1.out HB1.out
                case false =>
                  go_upto_region 12 with fail
                  go_cut [2, 103] from 89 to 103 (fun f c wx => f = .bool fl ∧ c = .bool (decide (fl = true ∧ op = 4 ∧ 65536 < mx)) ∧ w1 = wx)
                  case first =>
                    by_cases hf : fl = false
                    · have en2 : decide (fl = true ∧ op = 4 ∧ 65536 < mx) = false := by simp [hf]
                      have en3 := hid hf
                      go_wp2_with fail
                      go_meet
                      exact ⟨by first | rfl | exact congrArg Value.bool en3.out.symm, congrArg Value.bool en2.symm, rfl⟩
                    · have hf' : fl = true := by simpa using hf
                      have en3 := hid hf'
                      by_cases e4 : op = 4
                      · have e4' : (op == 4) = true := by simp [e4]
                        by_cases hm : 65536 < mx
                        · have hm' : decide (65536 < mx) = true := by simp [hm]
                          have en2 : decide (fl = true ∧ op = 4 ∧ 65536 < mx) = true := by simp [e4, hm, hf']
                          clear e4 hm hf
                          go_wp2_with fail
                          go_meet
                          exact ⟨by first | rfl | exact congrArg Value.bool en3.out.symm, congrArg Value.bool en2.symm, rfl⟩
                        · have hm' : decide (65536 < mx) = false := by simp [hm]
                          have en2 : decide (fl = true ∧ op = 4 ∧ 65536 < mx) = false := by simp [hm]
                          clear e4 hm hf
                          go_wp2_with fail
                          go_meet
                          exact ⟨by first | rfl | exact congrArg Value.bool en3.out.symm, congrArg Value.bool en2.symm, rfl⟩
                      · have e4' : (op == 4) = false := by simp [e4]
                        have en2 : decide (fl = true ∧ op = 4 ∧ 65536 < mx) = false := by simp [e4]
                        clear e4 hf
                        go_wp2_with fail
                        go_meet
                        exact ⟨by first | rfl | exact congrArg Value.bool en3.out.symm, congrArg Value.bool en2.symm, rfl⟩
                  case rest =>
                    obtain ⟨rfl, rfl, hwc⟩ := hcut
                    subst hwc
                    obtain ⟨c12, hc12⟩ : ∃ c, c = decide (fl = true ∧ op = 4 ∧ 65536 < mx) := ⟨_, rfl⟩
                    rw [← hc12]
                    have HC12 := hid hc12
                    clear hc12
                    cases c12
                    case true =>
                      go_wp2_with fail
                      exact walk_no rfl rfl HF1.out HB1.out
                    case false =>
                      go_upto_region 14 with fail
                      go_cut [9] from 105 to 123 (fun p wx => p = .pointer (some ⟨w1.heap.size, 0, none⟩) ∧ Hid (Four wx w1.heap.size 1 (8 * (set.length : Int) + 8 * (subs.length : Int)) set.length 0) ∧ Hid (Below w1.heap.size w1 wx))
                      case first =>
                        have hnw : w1.heap.size ≠ b := World.new_ne w1 ⟨b, off + 1, none⟩ q1
                        have hnw2 : b ≠ w1.heap.size := fun h => hnw h.symm
                        have hnw3 : b < w1.heap.size := cell_lt' q1
                        go_region
                        all_goals
                          go_wp2_with fail
                          go_meet
                          exact ⟨rfl, (four_new w1 _ _ _ _).drew, ((Below.refl _ _).alloc (Nat.le_refl _) _).drew⟩
                      case rest =>
                        obtain ⟨rfl, HF2, HB2⟩ := hcut
                        obtain ⟨w2, hw2⟩ : ∃ w2, w2 = wc := ⟨_, rfl⟩
                        subst hw2
                        have lb1 : b < w1.heap.size := cell_lt' q0
                        have p0 := (HB2.out.cell (p := ⟨b, off, none⟩) lb1).trans q0
                        have p4 := (HB2.out.cell (p := ⟨b, off + 4, none⟩) lb1).trans q4
                        go_upto_region 15 with fail
                        go_cut [2, 138] from 124 to 138 (fun f c wx => f = .bool fl ∧ (∃ q, c = .bool q) ∧ w2 = wx)
                        case first =>
                          by_cases hf : fl = false
                          · have en3 := hid hf
                            go_wp2_with fail
                            go_meet
                            exact ⟨by first | rfl | exact congrArg Value.bool en3.out.symm, ⟨_, rfl⟩, rfl⟩
                          · have hf' : fl = true := by simpa using hf
                            have en3 := hid hf'
                            by_cases e4 : op = 4
                            · have e4' : (op == 4) = true := by simp [e4]
                              clear e4 hf
                              go_wp2_with fail
                              go_meet
                              exact ⟨by first | rfl | exact congrArg Value.bool en3.out.symm, ⟨_, rfl⟩, rfl⟩
                            · have e4' : (op == 4) = false := by simp [e4]
                              clear e4 hf
                              go_wp2_with fail
                              go_meet
                              exact ⟨by first | rfl | exact congrArg Value.bool en3.out.symm, ⟨_, rfl⟩, rfl⟩
                        case rest =>
                          obtain ⟨rfl, ⟨qq, rfl⟩, hwc⟩ := hcut
                          subst hwc
                          go_upto_if 138 with fail
                          go_cut [] from 139 to 144 (fun wx => ∃ s, Hid (Four wx w1.heap.size 1 (8 * (set.length : Int) + 8 * (subs.length : Int)) set.length s) ∧ Hid (Below w1.heap.size w1 wx))
                          case first =>
                            obtain ⟨g0, g1, g2, g3, j0, j1, j2, j3⟩ := HF2.out
                            cases qq
                            · go_wp2_with fail
                              go_meet
                              exact ⟨0, HF2, HB2⟩
                            · go_wp2_with fail
                              go_meet
                              exact ⟨_, HF2.out.set3 _, HB2.out.setCell (Nat.le_refl _) _⟩
                          case rest =>
                            obtain ⟨s0, HF3, HB3⟩ := hcut
                            obtain ⟨w3, hw3⟩ : ∃ w3, w3 = wc := ⟨_, rfl⟩
                            subst hw3
                            have p2 := (HB3.out.cell (p := ⟨b, off + 2, none⟩) lb1).trans q2
                            have HZ3 := hid (HF1.out.below HB3.out)
                            have HY3 := hid (HY1.out.below HB3.out)
                            have HBW3 := hid (below_next HB1.out HB3.out)
                            obtain ⟨g0, g1, g2, g3, j0, j1, j2, j3⟩ := HF3.out
                            by_cases hby : 8 * (set.length : Int) + 8 * (subs.length : Int) ≤ 1048576
                            · go_wp2_with fail
                              go_loopw [154] (fun i wr => ∃ (k : Nat) (v bb rg s : Int), k ≤ subs.length ∧ i = .int .i64 k ∧ bb ≤ 1048576 ∧ 0 ≤ rg ∧ 8 * rg ≤ bb ∧ Hid (Four wr w1.heap.size v bb rg s) ∧ Hid (rg + (rngL (subs.drop k) : Nat) = set.length + (rngL subs : Nat)) ∧ Hid (∀ i, i < k → good fl (kid subs i)) ∧ Hid (Below w1.heap.size w1 wr)) (fun i _ => subs.length - (intOf i).toNat)
                              case atStart => exact ⟨0, 1, _, _, s0, Nat.zero_le _, rfl, hby, by omega, by omega, HF3, rfl, fun i hi => absurd hi (by omega), HB3⟩
                              case round =>
                                obtain ⟨k, v, bb, rg, s, hk, rfl, hbb, hrg, h8, HFr, HRr, HGr, HBr⟩ := hrel
                                clear g0 g1 g2 g3 j0 j1 j2 j3 p2
                                obtain ⟨g0, g1, g2, g3, j0, j1, j2, j3⟩ := HFr.out
                                have HZr := hid (HF1.out.below HBr.out)
                                have HYr := hid (HY1.out.below HBr.out)
                                have HBwr := hid (below_next HB1.out HBr.out)
                                by_cases hlt : k < subs.length
                                · obtain ⟨ub, uo, rfl, hc⟩ := HP.out (by omega)
                                  have C0 := hid (below_next HB.out HBwr.out)
                                  have c0 : wr.cell? ⟨ub, uo + k, none⟩ = some (.pointer (ps k)) := by
                                    have := hc k hlt
                                    rw [C0.out.cell (p := ⟨ub, uo + k, none⟩) (cell_lt' this)]; exact this
                                  clear hc
                                  go_wp2_with fail
                                  refine (HI.out k hlt fl _ wr C0).mono ?_
                                  rintro e w4 ⟨⟨cv, cb, cr, cs, ok, rfl, HOK⟩, B4⟩
                                  go_upto_region 23 with fail
                                  have lr9 : w1.heap.size < wr.heap.size := cell_lt' g0
                                  have lr4 := B4.out.size
                                  have H12 := hid (four_new w4 cv cb cr cs)
                                  have B5 := hid ((Below.refl w4.heap.size w4).alloc (Nat.le_refl _) (Obj.cells #[Value.int IntKind.i64 cv, Value.int IntKind.i64 cb, Value.int IntKind.i64 cr, Value.int IntKind.i64 cs] 41))
                                  obtain ⟨w5, hw5⟩ : ∃ w5, w5 = w4.alloc (Obj.cells #[Value.int IntKind.i64 cv, Value.int IntKind.i64 cb, Value.int IntKind.i64 cr, Value.int IntKind.i64 cs] 41) := ⟨_, rfl⟩
                                  rw [← hw5] at H12 B5 ⊢
                                  clear hw5
                                  have D5 := hid (below_next B4.out B5.out)
                                  have H9 := hid (HFr.out.below D5.out)
                                  have HZ5 := hid (HZr.out.below D5.out)
                                  have HY5 := hid (HYr.out.below D5.out)
                                  have HB5 := hid (below_next HBr.out D5.out)
                                  have HBw5 := hid (below_next HB1.out HB5.out)
                                  clear g0 g1 g2 g3 j0 j1 j2 j3 c0 C0
                                  have hn1 : w1.heap.size ≠ w4.heap.size := by omega
                                  have hn2 : w4.heap.size ≠ w1.heap.size := by omega
                                  cases ok
                                  · obtain ⟨z0, z1, z2, z3, f0, f1, f2, f3⟩ := HZ5.out
                                    obtain ⟨y0, y1, y2, y3, _, _, _, _⟩ := HY5.out
                                    go_wp2_with fail
                                    exact walk_no rfl rfl HZ5.out HBw5.out
                                  · obtain ⟨hgk, hrk, hc8, hcb⟩ := HOK.out rfl
                                    have hc0 : 0 ≤ cr := by omega
                                    have HRK := hid hrk
                                    have HGK := hid hgk
                                    clear hrk hgk HOK
                                    obtain ⟨g0, g1, g2, g3, j0, j1, j2, j3⟩ := H9.out
                                    obtain ⟨m0, m1, m2, m3, _, _, _, _⟩ := H12.out
                                    have hb0 : 0 ≤ bb := by omega
                                    have hcb0 : 0 ≤ cb := by omega
                                    go_upto_region 29 with fail
                                    obtain ⟨sw, hsw⟩ : ∃ x, x = wrap64 (s + cs) := ⟨_, rfl⟩
                                    obtain ⟨vw, hvw⟩ : ∃ x, x = wrap64 (v + cv) := ⟨_, rfl⟩
                                    rw [← hsw, ← hvw]
                                    clear hsw hvw
                                    have H96 := hid (H9.out.set vw (bb + cb) (rg + cr) sw)
                                    have HB6 := hid (below_set HB5.out (Nat.le_refl _) vw (bb + cb) (rg + cr) sw)
                                    obtain ⟨w6, hw6⟩ : ∃ w6, w6 = ((((w5.setCell ⟨w1.heap.size, 0, none⟩ (.int .i64 vw)).setCell ⟨w1.heap.size, 1, none⟩ (.int .i64 (bb + cb))).setCell ⟨w1.heap.size, 2, none⟩ (.int .i64 (rg + cr))).setCell ⟨w1.heap.size, 3, none⟩ (.int .i64 sw)) := ⟨_, rfl⟩
                                    rw [← hw6] at H96 HB6 ⊢
                                    clear hw6
                                    have HZ6 := hid (HF1.out.below HB6.out)
                                    have HY6 := hid (HY1.out.below HB6.out)
                                    have HBw6 := hid (below_next HB1.out HB6.out)
                                    clear g0 g1 g2 g3 j0 j1 j2 j3 m0 m1 m2 m3
                                    obtain ⟨g0, g1, g2, g3, j0, j1, j2, j3⟩ := H96.out
                                    by_cases hb2 : bb + cb ≤ 1048576
                                    · by_cases hs2 : sw ≤ 1048576
                                      · have HRn := hid (show rg + cr + (rngL (subs.drop (k + 1)) : Nat) = set.length + (rngL subs : Nat) by
                                          have h1 := HRr.out
                                          have h2 := rngW_drop hlt
                                          have h3 := HRK.out
                                          omega)
                                        have HGn : Hid (∀ i, i < k + 1 → good fl (kid subs i)) := fun i hi => by
                                          by_cases e : i = k
                                          · subst e; exact HGK.out
                                          · exact HGr.out i (by omega)
                                        go_wp2_with fail
                                        go_roundw
                                        case rel => exact ⟨k + 1, vw, bb + cb, rg + cr, sw, hlt, by go_num, hb2, by omega, by omega, H96, HRn, HGn, HB6⟩
                                        case measure => simp [intOf]; omega
                                      · obtain ⟨z0, z1, z2, z3, f0, f1, f2, f3⟩ := HZ6.out
                                        obtain ⟨y0, y1, y2, y3, _, _, _, _⟩ := HY6.out
                                        go_wp2_with fail
                                        exact walk_no rfl rfl HZ6.out HBw6.out
                                    · obtain ⟨z0, z1, z2, z3, f0, f1, f2, f3⟩ := HZ6.out
                                      obtain ⟨y0, y1, y2, y3, _, _, _, _⟩ := HY6.out
                                      go_wp2_with fail
                                      exact walk_no rfl rfl HZ6.out HBw6.out
                                · have hke := hid (show k = subs.length by omega)
                                  obtain ⟨z0, z1, z2, z3, f0, f1, f2, f3⟩ := HZr.out
                                  go_wp2_with fail
                                  refine walk_end rfl rfl (HZr.out.set v bb rg s) ⟨⟨v, bb, rg, s, true, rfl, fun _ => ⟨?_, ?_, h8, hbb⟩⟩, below_set HBwr.out (Nat.le_refl _) _ _ _ _⟩
                                  · exact good_of HDB.out hs1 hs2 HC8.out HC10.out HC12.out (by rw [← hke.out]; exact HGr.out)
                                  · have := HRr.out
                                    rw [List.drop_of_length_le (by rw [hke.out]; exact Nat.le_refl _)] at this
                                    simp only [rngL, rng] at this ⊢
                                    omega
                            · obtain ⟨z0, z1, z2, z3, f0, f1, f2, f3⟩ := HZ3.out
                              obtain ⟨y0, y1, y2, y3, _, _, _, _⟩ := HY3.out
                              go_wp2_with fail
                              exact walk_no rfl rfl HZ3.out HBW3.out
      · obtain ⟨z0, z1, z2, z3, f0, f1, f2, f3⟩ := HZ
        obtain ⟨y0, y1, y2, y3, _, _, _, _⟩ := HY
        have q1 := (HBW.cell (p := ⟨b, off + 1, none⟩) lb).trans k1
        have q2 := (HBW.cell (p := ⟨b, off + 2, none⟩) lb).trans k2
        clear HBW
        go_wp2_with fail
        exact walk_no rfl rfl HZ'.out HB'.out
    · obtain ⟨z0, z1, z2, z3, f0, f1, f2, f3⟩ := HZ
      obtain ⟨y0, y1, y2, y3, _, _, _, _⟩ := HY
      have q1 := (HBW.cell (p := ⟨b, off + 1, none⟩) lb).trans k1
      have q2 := (HBW.cell (p := ⟨b, off + 2, none⟩) lb).trans k2
      clear HBW
      go_wp2_with fail
      exact walk_no rfl rfl HZ'.out HB'.out

theorem walk_nil (fl : Bool) (left : Int) (w : World) : Calls Try.prog 19 #[.pointer none, .int .i64 left, .bool fl] w fun e w' => RetWalk fl .nil e ∧ Hid (Below w.heap.size w w') := by
  go_enter Try.func19, Try.ntmps19
  go_wp2_with fail
  exact walk_end rfl rfl (two_zero w).1 ⟨retWalk_no, (two_zero w).2.2.1⟩
theorem walk_any {w0 : World} {a : Option Addr} {t : Tr} (h : TreeAt w0 a t) : ∀ (fl : Bool) (left : Int) (w : World), Hid (Below w0.heap.size w0 w) →
    Calls Try.prog 19 #[.pointer a, .int .i64 left, .bool fl] w fun e w' => RetWalk fl t e ∧ Hid (Below w.heap.size w w') := by
  induction h with
  | nil => intro fl left w _; exact walk_nil fl left w
  | node b off op mn mx set sa sc subs ua uc ps h0 h1 g h2 hn h3 h4 b0 b1 b2 b3 b4 hp hs ih =>
    intro fl left w HB
    exact walk_node fl left hp ih w HB (by rw [HB.out.cell (cell_lt' h0)]; exact h0) (by rw [HB.out.cell (cell_lt' h1)]; exact h1) (by rw [HB.out.cell (cell_lt' h2)]; exact h2) (by rw [HB.out.cell (cell_lt' h4)]; exact h4) (hid (g.below HB.out).1) b1 b2 b4
end Go.Proofs.Qxb6605195a
