import Derived.Test.Qxb6605195aEvents
namespace Go.Proofs.Qxb6605195a
open Go.ChangeShapes Go.WideShapes Go.ChangeAt Go.RowKit Plain
set_option linter.unusedVariables false
set_option maxRecDepth 100000

theorem evs_snoc (l : List (Int × Int)) (r : Int × Int) : evs (l ++ [r]) = evs l ++ (if r.1 ≤ r.2 then [(r.1, 1), (r.2 + 1, -1)] else []) := by
  induction l with
  | nil => simp only [List.nil_append, evs]
  | cons x l ih =>
    simp only [List.cons_append, evs, ih]
    split
    · simp
    · rfl
theorem evs_len (l : List (Int × Int)) : (evs l).length ≤ 2 * l.length := by
  induction l with
  | nil => simp [evs]
  | cons x l ih => simp only [evs]; split <;> simp <;> omega
/-- an event's place and step lie within bounds -/
def EvOK (es : List (Int × Int)) : Prop := ∀ e ∈ es, 0 ≤ e.1 ∧ e.1 ≤ 1114112 ∧ (e.2 = 1 ∨ e.2 = -1)
theorem evOK_evs (l : List (Int × Int)) : Dom l → EvOK (evs l) := by
  induction l with
  | nil => intro _ e he; simp [evs] at he
  | cons x l ih =>
    intro h e he
    have hx := h x (by simp)
    have ih := ih (fun r hr => h r (by simp [hr]))
    simp only [evs] at he
    split at he
    · simp only [List.mem_cons] at he
      rcases he with rfl | rfl | he
      · exact ⟨by simp only; omega, by simp only; omega, .inl rfl⟩
      · exact ⟨by simp only; omega, by simp only; omega, .inr rfl⟩
      · exact ih e he
    · exact ih e he
theorem own_push2 {k : IntKind} {w' : World} {B : Nat} {e : TypeId} {v' : Value} {xs : List (Int × Int)} {n : Nat} {x y : Int} (hn : xs.length = n) (h : w'.ownsRow B e 2 v' (n + 1) (flat k xs ++ [.int k x, .int k y])) :
    w'.ownsRow B e 2 v' (xs ++ [(x, y)]).length (flat k (xs ++ [(x, y)])) := by
  subst hn; exact own_push h

/-- the first loop: the events of the first k ranges -/
def RelE (w : World) (xs : List (Int × Int)) (v ii : Value) (wr : World) : Prop :=
  ∃ k : Nat, ii = .int .i64 k ∧ k ≤ xs.length ∧ wr.ownsRow w.heap.size 66 2 v (evs (xs.take k)).length (flat .i64 (evs (xs.take k))) ∧ Below w.heap.size w wr
/-- the sweep's loop -/
def RelW (w2 : World) (E R : List (Int × Int)) (vo vc vs vi : Value) (wr : World) : Prop :=
  ∃ (i n : Nat) (count start : Int) (out : List (Int × Int)), vi = .int .i64 i ∧ vc = .int .i64 count ∧ vs = .int .i64 start ∧ i ≤ E.length ∧ -(i : Int) ≤ count ∧ count ≤ i ∧ 0 ≤ start ∧ start ≤ 1114112 ∧ out.length ≤ i ∧
    wr.ownsRow w2.heap.size 58 2 vo out.length (flat .i32 out) ∧ Below w2.heap.size w2 wr ∧ (E.drop i).length ≤ n ∧ sweep n (E.drop i) count start out = R
/-- one place's events -/
def RelG (w2 wr0 : World) (E : List (Int × Int)) (p : Int) (i0 : Nat) (G : List (Int × Int) × Int) (vc vi : Value) (wr : World) : Prop :=
  ∃ (i : Nat) (c : Int), vi = .int .i64 i ∧ vc = .int .i64 c ∧ i0 ≤ i ∧ i ≤ E.length ∧ -(i : Int) ≤ c ∧ c ≤ i ∧ grp p (E.drop i) c = G ∧ wr = wr0

set_option maxHeartbeats 8000000 in
theorem coverage_any (a : Option Addr) (cap : Nat) (xs : List (Int × Int)) (w : World) (hm : xs.length ≤ 262144) (hd : Hid (Dom xs)) (hr : Hid (PairRow .i32 w a xs)) :
    Calls Try.prog 14 #[.slice a xs.length cap] w fun e w' => (∃ C, RetPairs .i32 C e w' ∧ Canon C ∧ ∀ c, InR C c ↔ InR xs c) ∧ Below w.heap.size w w' := by
  obtain ⟨i0, hi0, hz0, hz1, hz2⟩ := info_parts Try.info66
  obtain ⟨j0, hj0, hy0, hy1, hy2⟩ := info_parts Try.info58
  go_enter Try.func14, Try.ntmps14
  go_wp2_with fail
  go_loopw [3, 14] (RelE w xs) (fun _ i _ => xs.length - (intOf i).toNat)
  case atStart => exact ⟨0, rfl, Nat.zero_le _, World.ownsRow_nil _ _ _ _, Below.refl _ _⟩
  case round =>
    obtain ⟨k, rfl, hk, HO0, HB0⟩ := hrel
    have HO := hid HO0
    have HB := hid HB0
    have hsz := HB0.size
    clear HO0 HB0
    by_cases hlt : k < xs.length
    · obtain ⟨b, off, lo, hi, rfl, c1, c2, hbl, HX, HM⟩ := hr.out.get HB.out hlt
      obtain ⟨q1, q2, q3, q4⟩ := hd.out (lo, hi) HM.out
      simp only at q1 q2 q3 q4
      have hln : (evs (xs.take k)).length ≤ 524288 := by have := evs_len (xs.take k); simp at this; omega
      by_cases t1 : lo ≤ hi
      · have HE : Hid (evs (xs.take (k + 1)) = (evs (xs.take k) ++ [(lo, 1)]) ++ [(hi + 1, -1)]) := by rw [take_snoc HX.out, evs_snoc]; show _ = _; simp [t1]
        go_wp2_with (first
          | (at_builtin; refine wpList_append_own _ rfl (.tmp 23) (.tmp 28) 64 rfl w.heap.size 66 i0 (.agg #[.int .i64 0, .int .i64 0]) 2 16 Try.underlying64 hi0 hz0 hz1 hz2 rfl (by decide) _ _ _ rfl ((HO.out.alloc _).alloc _) ⟨wr.heap.size + 1, 0, none⟩ 1 1 [.int .i64 lo, .int .i64 1] rfl rfl (two_new_at _ _ _ _ _ (by simp)) (two_one _ _ _) (by unfold maxLen; omega) (by omega) (by simp; omega) ?_; intro v1 w1 hown1 hgrow1 hnil1; (have hsz1 : wr.heap.size + 1 < w1.heap.size := by have := hgrow1.size; simp at this; omega); (have cr : w1.cell? ⟨wr.heap.size, 1, none⟩ = some (.int .i32 hi) := by rw [grown_cell hgrow1 (p := ⟨wr.heap.size, 1, none⟩) (by show wr.heap.size < _; simp; omega) (own_ne HO.out (Nat.le_refl _))]; simp); (have HO1 := hid (own_push hown1)); (have HB1 := hid (below_push ((HB.out.alloc hsz _).alloc (by simp; omega) _) ((HO.out.alloc _).alloc _) hgrow1 (by simp; omega))); clear hown1 hgrow1 hnil1)
          | (at_builtin; refine wpList_append_own _ rfl (.tmp 30) (.tmp 36) 64 rfl w.heap.size 66 i0 (.agg #[.int .i64 0, .int .i64 0]) 2 16 Try.underlying64 hi0 hz0 hz1 hz2 rfl (by decide) _ _ _ rfl (HO1.out.alloc _) ⟨w1.heap.size, 0, none⟩ 1 1 [.int .i64 (hi + 1), .int .i64 (-1)] rfl rfl (two_new_at _ _ _ _ _ (by simp)) (two_one _ _ _) (by unfold maxLen; simp; omega) (by simp; omega) (by simp; omega) ?_; intro v2 w2 hown2 hgrow2 hnil2))
        have HO2 := hid (own_push2 (by simp) hown2)
        have HB2 := hid (below_push (HB1.out.alloc (by omega) _) (HO1.out.alloc _) hgrow2 (by simp; omega))
        clear hown2 hgrow2 hnil2
        go_roundw
        case rel => exact ⟨k + 1, by go_num, hlt, by rw [HE.out]; exact HO2.out, HB2.out⟩
        case measure => simp [intOf]; omega
      · have HE : Hid (evs (xs.take (k + 1)) = evs (xs.take k)) := by rw [take_snoc HX.out, evs_snoc]; show _ = _; simp [t1]
        go_wp2_with fail
        go_roundw
        case rel => exact ⟨k + 1, by go_num, hlt, by rw [HE.out]; exact HO.out.alloc _, HB.out.alloc hsz _⟩
        case measure => simp [intOf]; omega
    · rw [List.take_of_length_le (by omega)] at HO
      have hel := evs_len xs
      obtain ⟨av, cv, ev, hp, hcv, _⟩ := pairRow_own HO.out
      subst ev
      have HPE := hid hp
      clear hp
      go_wp2_with fail
      refine (sort_any _ av cv (evs xs) wr (Nat.le_refl _) (by omega) hcv HPE).mono ?_
      rintro e w2 ⟨⟨E, ⟨aE, cE, rfl, hpE, hcE, _⟩, hPerm, hSort⟩, hB2⟩
      have HPX := hid hpE
      have HPerm := hid hPerm
      have HSort := hid hSort
      have HB2 := hid (HB.out.trans (hB2.mono hsz))
      have hEl : E.length ≤ 524288 := by rw [hPerm.length_eq]; omega
      have HOK : Hid (EvOK E) := fun e he => evOK_evs xs hd.out e (hPerm.mem_iff.mp he)
      obtain ⟨R, HR⟩ : ∃ R, Hid (sweep E.length E 0 0 [] = R) := ⟨_, rfl⟩
      clear hpE hPerm hSort hB2 HPE HO HB hr
      go_wp2_with fail
      go_loopw [6, 7, 8, 9] (RelW w2 E R) (fun _ _ _ i _ => E.length - (intOf i).toNat)
      case atStart => exact ⟨0, E.length, 0, 0, [], rfl, rfl, rfl, Nat.zero_le _, by omega, by omega, by omega, by omega, Nat.le_refl _, World.ownsRow_nil _ _ _ _, Below.refl _ _, Nat.le_refl _, HR.out⟩
      case round =>
        obtain ⟨i, n, count, start, out, rfl, rfl, rfl, hi, hc1, hc2, hs1, hs2, hol, HO0, HB0, hdn, hsw⟩ := hrel
        have HO := hid HO0
        have HB := hid HB0
        have hsz2 := HB0.size
        clear HO0 HB0
        by_cases hlt : i < E.length
        · obtain ⟨b, off, p, d0, rfl, e1, e2, hbl, HX, HM⟩ := HPX.out.get HB.out hlt
          obtain ⟨q1, q2, q3⟩ := HOK.out (p, d0) HM.out
          simp only at q1 q2 q3
          obtain ⟨m, rfl⟩ : ∃ m, n = m + 1 := ⟨n - 1, by simp at hdn; omega⟩
          rw [HX.out] at hsw
          simp only [sweep] at hsw
          rw [← HX.out] at hsw
          obtain ⟨G, HG⟩ : ∃ G, Hid (grp p (E.drop i) count = G) := ⟨_, rfl⟩
          rw [HG.out] at hsw
          have hgl : G.1.length ≤ m := by
            rw [← HG.out, HX.out]
            have := grp_head_len (p, d0) (E.drop (i + 1)) count
            simp at hdn this ⊢
            omega
          have HSW := hid hsw
          clear hsw
          obtain ⟨w4, hw4⟩ : ∃ w4, w4 = wr := ⟨_, rfl⟩
          subst hw4
          go_wp2_with fail
          go_loopw [7, 9] (RelG w2 w4 E p i G) (fun _ i _ => E.length - (intOf i).toNat)
          case atStart => exact ⟨i, count, rfl, rfl, Nat.le_refl _, hi, hc1, hc2, HG.out, rfl⟩
          case round =>
            obtain ⟨i', c, rfl, rfl, hii, hi', hd1, hd2, hgr, hwr⟩ := hrel
            subst hwr
            by_cases hl2 : i' < E.length
            · obtain ⟨b', off', p', d', eqa, f1, f2, _, HX', HM'⟩ := HPX.out.get HB.out hl2
              simp only [Option.some.injEq, Addr.mk.injEq] at eqa
              obtain ⟨rfl, rfl, _⟩ := eqa
              obtain ⟨r1, r2, r3⟩ := HOK.out (p', d') HM'.out
              simp only at r1 r2 r3
              by_cases hpp : p' = p
              · have yp : (p' == p) = true := by simpa using hpp
                have HN : Hid (grp p (E.drop (i' + 1)) (c + d') = G) := by
                  show _ = _
                  rw [← hgr, HX'.out]; simp only [grp]; rw [if_pos hpp]
                have hcd1 : -((i' : Int) + 1) ≤ c + d' := by omega
                have hcd2 : c + d' ≤ (i' : Int) + 1 := by omega
                clear hgr hpp HX' HX
                go_wp2_with fail
                go_roundw
                case rel => exact ⟨i' + 1, c + d', by go_num, rfl, by omega, hl2, by omega, by omega, HN.out, rfl⟩
                case measure => simp [intOf]; omega
              · have yp : (p' == p) = false := by simpa using hpp
                have hlt2 : i < i' := by
                  rcases Nat.lt_or_ge i i' with h | h
                  · exact h
                  · have e : i' = i := by omega
                    have h1 := HX'.out; rw [e, HX.out] at h1; simp at h1; omega
                have hG : G = (E.drop i', c) := by
                  rw [← hgr, HX'.out]; simp only [grp]; rw [if_neg hpp]
                have hG1 : G.1 = E.drop i' := by rw [hG]
                have hG2 : G.2 = c := by rw [hG]
                have hgl2 : (E.drop i').length ≤ m := by rw [← hG1]; exact hgl
                clear hgr hpp HX' HX hG
                by_cases z1 : count = 0
                · have y1 : (count == 0) = true := by simpa using z1
                  have y3 : decide ((0 : Int) < count) = false := by simp; omega
                  by_cases z2 : 0 < c
                  · have HN := hid HSW.out
                    rw [hG1, hG2, if_pos ⟨z1, z2⟩, if_neg (by omega)] at HN
                    clear HSW z1
                    go_wp2_with fail
                    go_roundw
                    case rel => exact ⟨i', m, c, p, out, rfl, rfl, rfl, hi', hd1, hd2, by omega, by omega, by omega, HO.out, HB.out, hgl2, HN.out⟩
                    case measure => simp [intOf]; omega
                  · have y2 : decide ((0 : Int) < c) = false := by simpa using z2
                    have HN := hid HSW.out
                    rw [hG1, hG2, if_neg (by omega), if_neg (by omega)] at HN
                    clear HSW z1
                    go_wp2_with fail
                    go_roundw
                    case rel => exact ⟨i', m, c, start, out, rfl, rfl, rfl, hi', hd1, hd2, by omega, by omega, by omega, HO.out, HB.out, hgl2, HN.out⟩
                    case measure => simp [intOf]; omega
                · have y1 : (count == 0) = false := by simpa using z1
                  by_cases z3 : 0 < count
                  · by_cases z4 : c = 0
                    · have y4 : (c == 0) = true := by simpa using z4
                      have HN := hid HSW.out
                      rw [hG1, hG2, if_neg (by omega), if_pos ⟨z3, z4⟩] at HN
                      clear HSW z4
                      go_wp2_with (at_builtin; refine wpList_append_own _ rfl (.tmp 86) (.tmp 93) 22 rfl w2.heap.size 58 j0 (.agg #[.int .i32 0, .int .i32 0]) 2 8 Try.underlying22 hj0 hy0 hy1 hy2 rfl (by decide) _ _ _ rfl (HO.out.alloc _) ⟨wr.heap.size, 0, none⟩ 1 1 [.int .i32 start, .int .i32 (p - 1)] rfl rfl (two_new_at _ _ _ _ _ (by simp)) (two_one _ _ _) (by unfold maxLen; omega) (by omega) (by simp; omega) ?_; intro v1 w5 hown1 hgrow1 hnil1)
                      have HO5 := hid (own_push hown1)
                      have HB5 := hid (below_push (HB.out.alloc hsz2 _) (HO.out.alloc _) hgrow1 (by simp; omega))
                      clear hown1 hgrow1 hnil1
                      go_wp2_with fail
                      go_roundw
                      case rel => exact ⟨i', m, c, start, out ++ [(start, p - 1)], rfl, rfl, rfl, hi', hd1, hd2, by omega, by omega, by simp; omega, HO5.out, HB5.out, hgl2, HN.out⟩
                      case measure => simp [intOf]; omega
                    · have y4 : (c == 0) = false := by simpa using z4
                      have HN := hid HSW.out
                      rw [hG1, hG2, if_neg (by omega), if_neg (by omega)] at HN
                      clear HSW
                      go_wp2_with fail
                      go_roundw
                      case rel => exact ⟨i', m, c, start, out, rfl, rfl, rfl, hi', hd1, hd2, by omega, by omega, by omega, HO.out, HB.out, hgl2, HN.out⟩
                      case measure => simp [intOf]; omega
                  · have y3 : decide ((0 : Int) < count) = false := by simpa using z3
                    have HN := hid HSW.out
                    rw [hG1, hG2, if_neg (by omega), if_neg (by omega)] at HN
                    clear HSW
                    go_wp2_with fail
                    go_roundw
                    case rel => exact ⟨i', m, c, start, out, rfl, rfl, rfl, hi', hd1, hd2, by omega, by omega, by omega, HO.out, HB.out, hgl2, HN.out⟩
                    case measure => simp [intOf]; omega
            · have hlt2 : i < i' := by omega
              have hdl : decide ((i' : Int) < (E.length : Int)) = false := by simp; omega
              have hG : G = (E.drop i', c) := by
                rw [← hgr, List.drop_of_length_le (by omega)]; rfl
              have hG1 : G.1 = E.drop i' := by rw [hG]
              have hG2 : G.2 = c := by rw [hG]
              have hgl2 : (E.drop i').length ≤ m := by rw [← hG1]; exact hgl
              clear hgr HX hG
              by_cases z1 : count = 0
              · have y1 : (count == 0) = true := by simpa using z1
                have y3 : decide ((0 : Int) < count) = false := by simp; omega
                by_cases z2 : 0 < c
                · have HN := hid HSW.out
                  rw [hG1, hG2, if_pos ⟨z1, z2⟩, if_neg (by omega)] at HN
                  clear HSW z1
                  go_wp2_with fail
                  go_roundw
                  case rel => exact ⟨i', m, c, p, out, rfl, rfl, rfl, hi', hd1, hd2, by omega, by omega, by omega, HO.out, HB.out, hgl2, HN.out⟩
                  case measure => simp [intOf]; omega
                · have y2 : decide ((0 : Int) < c) = false := by simpa using z2
                  have HN := hid HSW.out
                  rw [hG1, hG2, if_neg (by omega), if_neg (by omega)] at HN
                  clear HSW z1
                  go_wp2_with fail
                  go_roundw
                  case rel => exact ⟨i', m, c, start, out, rfl, rfl, rfl, hi', hd1, hd2, by omega, by omega, by omega, HO.out, HB.out, hgl2, HN.out⟩
                  case measure => simp [intOf]; omega
              · have y1 : (count == 0) = false := by simpa using z1
                by_cases z3 : 0 < count
                · by_cases z4 : c = 0
                  · have y4 : (c == 0) = true := by simpa using z4
                    have HN := hid HSW.out
                    rw [hG1, hG2, if_neg (by omega), if_pos ⟨z3, z4⟩] at HN
                    clear HSW z4
                    go_wp2_with (at_builtin; refine wpList_append_own _ rfl (.tmp 86) (.tmp 93) 22 rfl w2.heap.size 58 j0 (.agg #[.int .i32 0, .int .i32 0]) 2 8 Try.underlying22 hj0 hy0 hy1 hy2 rfl (by decide) _ _ _ rfl (HO.out.alloc _) ⟨wr.heap.size, 0, none⟩ 1 1 [.int .i32 start, .int .i32 (p - 1)] rfl rfl (two_new_at _ _ _ _ _ (by simp)) (two_one _ _ _) (by unfold maxLen; omega) (by omega) (by simp; omega) ?_; intro v1 w5 hown1 hgrow1 hnil1)
                    have HO5 := hid (own_push hown1)
                    have HB5 := hid (below_push (HB.out.alloc hsz2 _) (HO.out.alloc _) hgrow1 (by simp; omega))
                    clear hown1 hgrow1 hnil1
                    go_wp2_with fail
                    go_roundw
                    case rel => exact ⟨i', m, c, start, out ++ [(start, p - 1)], rfl, rfl, rfl, hi', hd1, hd2, by omega, by omega, by simp; omega, HO5.out, HB5.out, hgl2, HN.out⟩
                    case measure => simp [intOf]; omega
                  · have y4 : (c == 0) = false := by simpa using z4
                    have HN := hid HSW.out
                    rw [hG1, hG2, if_neg (by omega), if_neg (by omega)] at HN
                    clear HSW
                    go_wp2_with fail
                    go_roundw
                    case rel => exact ⟨i', m, c, start, out, rfl, rfl, rfl, hi', hd1, hd2, by omega, by omega, by omega, HO.out, HB.out, hgl2, HN.out⟩
                    case measure => simp [intOf]; omega
                · have y3 : decide ((0 : Int) < count) = false := by simpa using z3
                  have HN := hid HSW.out
                  rw [hG1, hG2, if_neg (by omega), if_neg (by omega)] at HN
                  clear HSW
                  go_wp2_with fail
                  go_roundw
                  case rel => exact ⟨i', m, c, start, out, rfl, rfl, rfl, hi', hd1, hd2, by omega, by omega, by omega, HO.out, HB.out, hgl2, HN.out⟩
                  case measure => simp [intOf]; omega
        · have hout : out = R := by
            rw [List.drop_of_length_le (by omega)] at hsw
            rw [← hsw]; cases n <;> rfl
          have hcov := coverage_ok xs E E.length HPerm.out HSort.out (Nat.le_refl _)
          rw [HR.out, ← hout] at hcov
          clear hsw hout HR
          go_wp2_with fail
          go_ret
          exact ⟨⟨out, retPairs_own HO.out, hcov⟩, HB2.out.trans (HB.out.mono HB2.out.size)⟩
end Go.Proofs.Qxb6605195a
