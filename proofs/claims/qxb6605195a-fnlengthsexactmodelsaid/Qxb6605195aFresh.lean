import Derived.Test.Qxb6605195aUnionMain
namespace Go.Proofs.Qxb6605195a
open Go.ChangeShapes Go.WideShapes Go.ChangeAt Go.RowKit Plain
set_option linter.unusedVariables false
set_option maxRecDepth 100000

/-- P holds in every later world that keeps the cells of the blocks from s on that w' has -/
def Stays (s : Nat) (w' : World) (P : World → Prop) : Prop := ∀ w'' : World, w'.heap.size ≤ w''.heap.size → (∀ p : Addr, s ≤ p.block → p.block < w'.heap.size → w''.cell? p = w'.cell? p) → P w''
theorem Stays.now {s : Nat} {w' : World} {P : World → Prop} (h : Stays s w' P) : P w' := h w' (Nat.le_refl _) fun _ _ _ => rfl
theorem Stays.mono {s s' : Nat} {w' : World} {P : World → Prop} (h : Stays s w' P) (hs : s' ≤ s) : Stays s' w' P := fun w'' hz hk => h w'' hz fun p h1 h2 => hk p (Nat.le_trans hs h1) h2
theorem Stays.later {s : Nat} {w' w1 : World} {P : World → Prop} (h : Stays s w' P) (hz : w'.heap.size ≤ w1.heap.size) (hk : ∀ p : Addr, s ≤ p.block → p.block < w'.heap.size → w1.cell? p = w'.cell? p) : Stays s w1 P :=
  fun w'' hz' hk' => h w'' (Nat.le_trans hz hz') fun p h1 h2 => (hk' p h1 (Nat.lt_of_lt_of_le h2 hz)).trans (hk p h1 h2)

theorem pairRow_stays {k : IntKind} {s : Nat} {w' : World} {a : Option Addr} {xs : List (Int × Int)} (h : PairRow k w' a xs) (ha : ∀ x, a = some x → s ≤ x.block) : Stays s w' (fun w'' => PairRow k w'' a xs) := by
  intro w'' hz hk h0
  obtain ⟨b, off, rfl, hc⟩ := h h0
  have hb : s ≤ b := ha _ rfl
  refine ⟨b, off, rfl, fun i hi => ?_⟩
  obtain ⟨c1, c2⟩ := hc i hi
  exact ⟨by rw [hk ⟨b, off + i * 2, none⟩ hb (cell_lt' c1)]; exact c1, by rw [hk ⟨b, off + i * 2 + 1, none⟩ hb (cell_lt' c2)]; exact c2⟩
theorem setAt_stays {s : Nat} {w' : World} {b : Nat} {M : List (Int × Int)} {g : Nat → Nat} (h : SetAt w' b M g) (hb : s ≤ b) (ha : ∀ (x : Addr) c, w'.cell? ⟨b, 0, none⟩ = some (.slice (some x) M.length c) → s ≤ x.block) : Stays s w' (fun w'' => SetAt w'' b M g) := by
  intro w'' hz hk
  obtain ⟨hl, ⟨a, cap, h0, hp, hn⟩, h1, h2⟩ := h
  refine ⟨Nat.lt_of_lt_of_le hl hz, ⟨a, cap, by rw [hk ⟨b, 0, none⟩ hb hl]; exact h0, ?_, hn⟩, by rw [hk ⟨b, 1, none⟩ hb hl]; exact h1, by rw [hk ⟨b, 2, none⟩ hb hl]; exact h2⟩
  exact pairRow_stays hp (fun x hx => ha x cap (by rw [← hx]; exact h0)) w'' hz hk
theorem own_block {w : World} {B : Nat} {e : TypeId} {a : Option Addr} {m c n : Nat} {xs : List Value} (h : w.ownsRow B e 2 (.slice a m c) n xs) : ∀ x, a = some x → B ≤ x.block := by
  obtain ⟨hl, ⟨h0, _⟩ | ⟨g, cap, cur, h0, hb, hh, h1, h2, h3, h4⟩⟩ := h
  · injection h0 with h0; subst h0; intro x hx; cases hx
  · injection h0 with h0; subst h0; intro x hx; cases hx; exact hb
/-- new pairs -/
def RetPairsN (s : Nat) (xs : List (Int × Int)) (e : Ending) (w' : World) : Prop := ∃ a cap, e = .returned (.slice a xs.length cap) ∧ PairRow .i32 w' a xs ∧ (a = none → xs = [] ∧ cap = 0) ∧ ∀ x, a = some x → s ≤ x.block
/-- a new set -/
def RetSetN (s : Nat) (xs : List (Int × Int)) (e : Ending) (w' : World) : Prop :=
  ∃ b M g, e = .returned (.pointer (some ⟨b, 0, none⟩)) ∧ SetFor w' b M g xs ∧ Stays s w' (fun w'' => SetAt w'' b M g)

set_option maxHeartbeats 1000000 in
theorem cloneN_some (a : Option Addr) (ha : a.isNone = false) (cap : Nat) (xs : List (Int × Int)) (w : World) (hm : xs.length ≤ 1048576) (hr : Hid (PairRow .i32 w a xs)) :
    Calls Try.prog 9 #[.slice a xs.length cap] w fun e w' => RetPairsN w.heap.size xs e w' ∧ Below w.heap.size w w' := by
  obtain ⟨i0, hi0, hz0, hz1, hz2⟩ := info_parts Try.info58
  have hnl := eqNil22
  go_enter Try.func9, Try.ntmps9
  go_wp2_with (at_make; refine wpList_make_full _ rfl _ _ 22 rfl w.heap.size 58 i0 (.agg #[.int .i32 0, .int .i32 0]) 2 Try.underlying22 hi0 hz0 hz1 .i64 .i64 (xs.length : Int) (xs.length : Int) xs.length rfl rfl rfl rfl (by rw [hz2]; omega) (by unfold maxLen; omega) (Nat.le_refl _) ?_; intro w1 hown hgrow)
  obtain ⟨f0, hrow⟩ := rowIs_of_own hown
  have HB1 : Hid (Below w.heap.size w w1) := (Below.refl _ _).grown hgrow (Nat.le_refl _) (by simp)
  have HR1 : Hid (w1.rowIs w.heap.size 58 (xs.length * 2) f0) := hrow
  clear hown hgrow hrow
  go_loopw [4] (fun i wr => ∃ (k : Nat) (f : Nat → Value), k ≤ xs.length ∧ i = .int .i64 k ∧ Hid (wr.rowIs w.heap.size 58 (xs.length * 2) f) ∧ Hid (Filled .i32 xs k f) ∧ Hid (Below w.heap.size w wr)) (fun i _ => xs.length - (intOf i).toNat)
  case atStart => exact ⟨0, f0, Nat.zero_le _, rfl, HR1, fun i hi => by omega, HB1⟩
  case round =>
    obtain ⟨k, f, hk, rfl, HR, HF, HB⟩ := hrel
    clear HR1 HB1
    by_cases hlt : k < xs.length
    · obtain ⟨b, off, lo, hi, rfl, c1, c2, hbl, HX, HM⟩ := hr.out.get HB.out hlt
      have d1 := HR.out.cell (i := k * 2) (by omega)
      have d2 := HR.out.cell (i := k * 2 + 1) (by omega)
      have e1 := HR.out.frozen (k * 2)
      have e2 := HR.out.frozen (k * 2 + 1)
      have HR2 : Hid (((wr.setCell ⟨w.heap.size, k * 2, none⟩ (.int .i32 lo)).setCell ⟨w.heap.size, k * 2 + 1, none⟩ (.int .i32 hi)).rowIs w.heap.size 58 (xs.length * 2) _) := (HR.out.set (k * 2) (.int .i32 lo)).set (k * 2 + 1) (.int .i32 hi)
      have HF2 := filled_step HF.out HX.out
      have HF3 : Hid (Filled .i32 xs (k + 1) (fun j => if j = k * 2 + 1 then .int .i32 hi else if j = k * 2 then .int .i32 lo else f j)) := HF2
      have HB2 : Hid (Below w.heap.size w ((wr.setCell ⟨w.heap.size, k * 2, none⟩ (.int .i32 lo)).setCell ⟨w.heap.size, k * 2 + 1, none⟩ (.int .i32 hi))) := (HB.out.setCell (Nat.le_refl _) _).setCell (Nat.le_refl _) _
      clear HF2
      go_wp2_with fail
      go_roundw
      case rel => exact ⟨k + 1, _, hlt, by go_num, HR2, HF3, HB2⟩
      case measure => simp [intOf]; omega
    · go_wp2_with fail
      go_ret
      have : k = xs.length := by omega
      subst this
      exact ⟨⟨_, _, rfl, pairRow_filled HR.out HF.out, by simp, fun x hx => by cases hx; exact Nat.le_refl _⟩, HB.out⟩
theorem cloneN_any (a : Option Addr) (cap : Nat) (xs : List (Int × Int)) (w : World) (hm : xs.length ≤ 1048576) (hr : Hid (PairRow .i32 w a xs)) (hn : a = none → xs = [] ∧ cap = 0) :
    Calls Try.prog 9 #[.slice a xs.length cap] w fun e w' => RetPairsN w.heap.size xs e w' ∧ Below w.heap.size w w' := by
  cases a with
  | some x => exact cloneN_some (some x) rfl cap xs w hm hr
  | none =>
    obtain ⟨rfl, rfl⟩ := hn rfl
    have hnl := eqNil22
    go_enter Try.func9, Try.ntmps9
    go_wp2_with fail
    go_ret
    exact ⟨⟨none, 0, rfl, fun h => by simp at h, by simp, fun x hx => by cases hx⟩, Below.refl _ _⟩

set_option maxHeartbeats 4000000 in
theorem newSetN_any (a : Option Addr) (cap : Nat) (xs : List (Int × Int)) (w : World) (hm : xs.length ≤ 1048576) (hd : Hid (Dom xs)) (hr : Hid (PairRow .i32 w a xs)) (hn : Hid (a = none → xs = [])) :
    Calls Try.prog 30 #[.slice a xs.length cap] w fun e w' => RetSetN w.heap.size xs e w' ∧ Below w.heap.size w w' := by
  obtain ⟨i0, hi0, hz0, hz1, hz2⟩ := info_parts Try.info60
  go_enter Try.func30, Try.ntmps30
  go_wp2_with fail
  refine (sclone_any a cap xs w hm hr hn).mono ?_
  rintro e w1 ⟨⟨a1, c1, rfl, hrd⟩, B1⟩
  have HRD := hid hrd
  clear hrd
  go_wp2_with fail
  refine (sortF_all a1 w.heap.size c1 xs w w1 hm hd HRD B1 B1.out.size).mono ?_
  rintro e w2 ⟨rfl, ⟨ys, hyl, HP, HS, HR⟩, B2⟩
  have HDY : Hid (Dom ys) := fun r hr' => hd.out r (HP.out.mem_iff.mp hr')
  rw [← hyl] at hm ⊢
  have hyl' := hid hyl
  clear hyl HRD
  go_wp2_with fail
  go_loopw [4, 18] (RelN w2 ys) (fun _ i _ => ys.length - (intOf i).toNat)
  case atStart => exact ⟨0, rfl, Nat.zero_le _, World.ownsRow_nil _ _ _ _, Below.refl _ _⟩
  case round =>
    obtain ⟨k, rfl, hk, HO0, HB0⟩ := hrel
    have HO := hid HO0
    have HB := hid HB0
    have hsz := HB0.size
    clear HO0 HB0
    by_cases hlt : k < ys.length
    · obtain ⟨b, off, lo, hi, rfl, c1, c2, hbl, HX, HM⟩ := HR.out.get HB.out hlt
      obtain ⟨q1, q2, q3, q4⟩ := HDY.out (lo, hi) HM.out
      simp only at q1 q2 q3 q4
      have HSTEP := hid (st_some HX.out)
      have hlen := len_fold (ys.take k)
      have hdm := dom_fold (ys.take k) (fun r hr' => HDY.out r (List.mem_of_mem_take hr'))
      have hinv := minv_fold (ys.take k) (HS.out.sublist (List.take_sublist _ _))
      have hnone := hinv.none
      generalize foldM (ys.take k) = st at HSTEP hlen hdm HO hnone
      clear hinv
      obtain ⟨pre, last⟩ := st
      simp only [mlist] at hlen hdm hnone
      have hlk : (ys.take k).length ≤ k := List.length_take_le _ _
      have HBA := hid (HB.out.alloc hsz (.cells #[.int .i32 lo, .int .i32 hi] 60))
      by_cases t1 : hi < lo
      · have HE : Hid (foldM (ys.take (k + 1)) = (pre, last)) := by rw [HSTEP.out]; show mstep _ _ = _; simp [mstep, t1]
        obtain ⟨av, cv, ev⟩ := own_len HO.out
        subst ev
        go_wp2_with fail
        go_roundw
        case rel => exact ⟨k + 1, by go_num, hlt, by rw [HE.out]; exact HO.out.alloc _, HBA.out⟩
        case measure => simp [intOf]; omega
      · cases last with
        | none =>
          have hp : pre = [] := hnone rfl
          subst hp
          have HE : Hid (foldM (ys.take (k + 1)) = ([], some (lo, hi))) := by rw [HSTEP.out]; show mstep _ _ = _; simp [mstep, t1]
          simp only [mlist, Option.toList, List.append_nil, List.length_nil] at HO
          obtain ⟨av, cv, ev⟩ := own_len HO.out
          subst ev
          clear hlen hdm hnone HSTEP
          go_wp2_with fail
          go_quiet (fail)
          go_wp2_with (at_builtin; refine wpList_append_own _ rfl (.tmp 57) (.tmp 59) 27 rfl w2.heap.size 60 i0 (.agg #[.int .i32 0, .int .i32 0]) 2 8 Try.underlying27 hi0 hz0 hz1 hz2 rfl (by decide) _ _ _ rfl ((show ((wr.alloc (.cells #[.int .i32 lo, .int .i32 hi] 60)).drewN nq).ownsRow _ _ _ _ _ _ from HO.out.alloc _).alloc _) ⟨wr.heap.size + 1, 0, none⟩ 1 1 [.int .i32 lo, .int .i32 hi] rfl rfl (two_new_at _ _ _ _ _ (by simp)) (two_one _ _ _) (by unfold maxLen; omega) (by omega) (by simp; omega) ?_; intro v1 w3 hown1 hgrow1 hnil1)
          have HB3 := hid (below_push ((below_drewN HBA.out nq).alloc (by simp; omega) _) ((show ((wr.alloc (.cells #[.int .i32 lo, .int .i32 hi] 60)).drewN nq).ownsRow _ _ _ _ _ _ from HO.out.alloc _).alloc _) hgrow1 (by simp; omega))
          have HO3 := hid hown1
          clear hown1 hgrow1 hnil1
          go_wp2_with fail
          go_roundw
          case rel => exact ⟨k + 1, by go_num, hlt, by rw [HE.out]; exact HO3.out, HB3.out⟩
          case measure => simp [intOf]; omega
        | some l =>
          obtain ⟨l1, l2⟩ := l
          obtain ⟨z1, z2, z3, z4⟩ := hdm (l1, l2) (by simp)
          simp only at z1 z2 z3 z4
          simp only [Option.toList, List.length_append, List.length_singleton] at hlen
          have HO' : Hid (wr.ownsRow w2.heap.size 60 2 _ (pre ++ [(l1, l2)]).length (flat .i32 (pre ++ [(l1, l2)]))) := HO
          have el : (pre ++ [(l1, l2)]).length = pre.length + 1 := by simp
          rw [el] at HO'
          obtain ⟨g, cv, ev, hgB, hgl⟩ := own_shape HO'.out (by omega)
          subst ev
          have dl : wr.cell? ⟨g, pre.length * 2 + 1, none⟩ = some (.int .i32 l2) := by rw [HO'.out.cellAt _ (by omega)]; exact flat_last _ _ _ _
          have fl : wr.frozen? ⟨g, pre.length * 2 + 1, none⟩ = false := HO'.out.frozenAt _
          have hk0 : (0 : Int) < (pre.length : Int) + 1 := by omega
          clear hdm hnone HO
          by_cases t2 : lo ≤ l2 + 1
          · have HE : Hid (foldM (ys.take (k + 1)) = (pre, some (l1, max l2 hi))) := by rw [HSTEP.out]; show mstep _ _ = _; simp [mstep, t1, t2]
            clear HSTEP
            by_cases hmx : l2 < hi
            · have hmax : max l2 hi = hi := by omega
              rw [hmax] at HE
              go_wp2_with fail
              go_quiet (fail)
              go_wp2_with fail
              go_region
              all_goals
                go_wp2_with fail
                go_roundw
                case rel =>
                  have HW := ((show ((wr.alloc (.cells #[.int .i32 lo, .int .i32 hi] 60)).drewN (nq + 1)).ownsRow _ _ _ _ _ _ from HO'.out.alloc _).stored (pre.length * 2 + 1) (.int .i32 hi)).1
                  rw [flat_set] at HW
                  exact ⟨k + 1, by go_num, hlt, by rw [HE.out]; simpa [mlist] using HW, (below_drewN HBA.out (nq + 1)).setCell (p := ⟨g, pre.length * 2 + 1, none⟩) hgB (.int .i32 hi)⟩
                case measure => simp [intOf]; omega
            · have hmax : max l2 hi = l2 := by omega
              rw [hmax] at HE
              go_wp2_with fail
              go_quiet (fail)
              go_wp2_with fail
              go_region
              all_goals
                go_wp2_with fail
                go_roundw
                case rel =>
                  have HW := ((show ((wr.alloc (.cells #[.int .i32 lo, .int .i32 hi] 60)).drewN (nq + 1)).ownsRow _ _ _ _ _ _ from HO'.out.alloc _).stored (pre.length * 2 + 1) (.int .i32 l2)).1
                  rw [flat_set] at HW
                  exact ⟨k + 1, by go_num, hlt, by rw [HE.out]; simpa [mlist] using HW, (below_drewN HBA.out (nq + 1)).setCell (p := ⟨g, pre.length * 2 + 1, none⟩) hgB (.int .i32 l2)⟩
                case measure => simp [intOf]; omega
          · have HE : Hid (foldM (ys.take (k + 1)) = (pre ++ [(l1, l2)], some (lo, hi))) := by rw [HSTEP.out]; show mstep _ _ = _; simp [mstep, t1, t2]
            have hdc : decide (lo ≤ l2 + 1) = false := by simpa using t2
            clear HSTEP
            go_wp2_with fail
            go_quiet (fail)
            go_wp2_with (at_builtin; refine wpList_append_own _ rfl (.tmp 57) (.tmp 59) 27 rfl w2.heap.size 60 i0 (.agg #[.int .i32 0, .int .i32 0]) 2 8 Try.underlying27 hi0 hz0 hz1 hz2 rfl (by decide) _ _ _ rfl ((show ((wr.alloc (.cells #[.int .i32 lo, .int .i32 hi] 60)).drewN nq).ownsRow _ _ _ _ _ _ from HO'.out.alloc _).alloc _) ⟨wr.heap.size + 1, 0, none⟩ 1 1 [.int .i32 lo, .int .i32 hi] rfl rfl (two_new_at _ _ _ _ _ (by simp)) (two_one _ _ _) (by unfold maxLen; omega) (by omega) (by simp; omega) ?_; intro v1 w3 hown1 hgrow1 hnil1)
            have HB3 := hid (below_push ((below_drewN HBA.out nq).alloc (by simp; omega) _) ((show ((wr.alloc (.cells #[.int .i32 lo, .int .i32 hi] 60)).drewN nq).ownsRow _ _ _ _ _ _ from HO'.out.alloc _).alloc _) hgrow1 (by simp; omega))
            have HO3 := hid hown1
            clear hown1 hgrow1 hnil1
            go_wp2_with fail
            go_roundw
            case rel => exact ⟨k + 1, by go_num, hlt, by rw [HE.out]; simpa [mlist, flat_append, flat_cons, flat_nil] using HO3.out, HB3.out⟩
            case measure => simp [intOf]; omega
    · have hk2 : ys.take k = ys := List.take_of_length_le (by omega)
      rw [hk2] at HO
      have hinv := minv_fold ys HS.out
      have hMl := len_fold ys
      have HMD := hid (dom_fold ys HDY.out)
      have HMC := hid hinv.canon
      have HMI := hid hinv.covers
      clear hinv hk2
      generalize mlist (foldM ys).1 (foldM ys).2 = M at HO hMl HMD HMC HMI
      obtain ⟨av, cv, ev, hp, hcv, hnv⟩ := pairRow_own HO.out
      subst ev
      have HOV := hid (own_block HO.out)
      have HPM := hid hp
      have HNV := hid hnv
      clear hp hnv
      obtain ⟨w3, hw3⟩ : ∃ w3, w3 = wr := ⟨_, rfl⟩
      subst hw3
      go_wp2_with fail
      go_loopw [67] (RelA w3 (.slice av M.length cv) M) (fun i _ => M.length - (intOf i).toNat)
      case atStart =>
        refine ⟨0, fun _ => 0, rfl, Nat.zero_le _, ?_, bits_congr bits_zero (fun x _ => by simp [inR_nil]), (Below.refl _ _).alloc (Nat.le_refl _) _⟩
        have := World.rowIs_alloc w3 #[.slice av M.length cv, .int .u64 0, .int .u64 0] 63 (asc (.slice av M.length cv) (fun _ => 0)) (fun i hi => by match i, hi with | 0, _ => rfl | 1, _ => rfl | 2, _ => rfl)
        simpa using this
      case round =>
        obtain ⟨k', g, rfl, hk', HR0, HG0, HB0⟩ := hrel
        have HRW := hid HR0
        have HG := hid HG0
        have HB4 := hid HB0
        have hwl : w3.heap.size < wr.heap.size := HR0.lt
        clear HR0 HG0 HB0
        by_cases hlt : k' < M.length
        · obtain ⟨b', off', lo, hi, rfl, d1, d2, hbl, HX, HM'⟩ := HPM.out.get HB4.out hlt
          obtain ⟨q1, q2, q3, q4⟩ := HMD.out (lo, hi) HM'.out
          have hlh := HMC.out.2 (lo, hi) HM'.out
          simp only at q1 q2 q3 q4 hlh
          obtain ⟨w4, hw4⟩ : ∃ w4, w4 = wr := ⟨_, rfl⟩
          subst hw4
          go_wp2_with fail
          go_loopw [11] (RelC w3 (.slice (some ⟨b', off', none⟩) M.length cv) M k' w4.heap.size lo hi) (fun c _ => 1114113 - (intOf c).toNat)
          case atStart =>
            obtain ⟨n, hn⟩ := Int.eq_ofNat_of_zero_le q1
            subst hn
            refine ⟨n, g, rfl, Int.le_refl _, by omega, HRW.out.alloc _, bits_congr HG.out (fun x _ => ⟨fun h => .inl h, fun h => by rcases h with h | h; exact h; omega⟩), HB4.out.alloc (by omega) _, by simp, by simp, by simp⟩
          case round =>
            obtain ⟨c, g2, rfl, hc1, hc2, HR0, HG0, HB0, e0, e1, hrb⟩ := hrel
            have hR := hid HR0
            have hG := hid HG0
            have hB := hid HB0
            clear HR0 HG0 HB0 HRW HG HB4
            by_cases t1 : (c : Int) ≤ hi
            · by_cases t2 : (c : Int) < 128
              · have hcn : c < 128 := by omega
                have dc : wr.cell? ⟨w3.heap.size, 1 + c / 64, none⟩ = some (.int .u64 (g2 (c / 64) : Nat)) := by
                  rw [hR.out.cell (i := 1 + c / 64) (by omega)]
                  show some (asc _ g2 (1 + c / 64)) = _
                  unfold asc; rw [if_neg (by omega), show 1 + c / 64 - 1 = c / 64 from by omega]
                have fc := hR.out.frozen (1 + c / 64)
                have hg2 := (hG.out (c / 64) (by omega)).1
                have HN := hid (row_asc hR.out hcn hg2)
                have HGN : Hid (Bits (orBit g2 c) (fun x => InR (M.take k') (x : Int) ∨ (lo ≤ (x : Int) ∧ x < c + 1))) := by
                  refine bits_congr (bits_set hG.out c hcn) fun x hx => ?_
                  constructor
                  · rintro ((h1 | h1) | h1)
                    · exact .inl h1
                    · exact .inr (by omega)
                    · exact .inr (by omega)
                  · rintro (h1 | h1)
                    · exact .inl (.inl h1)
                    · by_cases ex : x = c
                      · exact .inr ex
                      · exact .inl (.inr (by omega))
                go_wp2_with fail
                go_region
                all_goals
                  go_wp2_with fail
                  go_roundw
                  case rel =>
                    refine ⟨c + 1, orBit g2 c, by go_num, by omega, by omega, HN.out, HGN.out, (hB.out.setCell (Nat.le_refl _) _).drew, ?_, ?_, ?_⟩
                    · rw [← e0]; exact World.cell?_setCell_other _ _ _ _ (by intro h; injection h; omega)
                    · rw [← e1]; exact World.cell?_setCell_other _ _ _ _ (by intro h; injection h; omega)
                    · simpa [World.setCell] using hrb
                  case measure => simp [intOf]; omega
              · have hdf : decide ((c : Int) < 128) = false := by simpa using t2
                have HGE : Hid (Bits g2 (fun x => InR (M.take (k' + 1)) (x : Int))) := by
                  refine bits_congr hG.out fun x hx => ?_
                  rw [take_snoc HX.out, inR_append, inR_cons]
                  simp only [inR_nil, or_false]
                  constructor
                  · rintro (h1 | h1)
                    · exact .inl h1
                    · exact .inr (by omega)
                  · rintro (h1 | h1)
                    · exact .inl h1
                    · exact .inr (by omega)
                go_wp2_with fail
                go_roundw
                case rel => exact ⟨k' + 1, g2, by go_num, hlt, hR.out, HGE.out, hB.out⟩
                case measure => simp [intOf]; omega
            · have hdf : decide ((c : Int) ≤ hi) = false := by simpa using t1
              have HGE : Hid (Bits g2 (fun x => InR (M.take (k' + 1)) (x : Int))) := by
                refine bits_congr hG.out fun x hx => ?_
                rw [take_snoc HX.out, inR_append, inR_cons]
                simp only [inR_nil, or_false]
                constructor
                · rintro (h1 | h1)
                  · exact .inl h1
                  · exact .inr (by omega)
                · rintro (h1 | h1)
                  · exact .inl h1
                  · exact .inr (by omega)
              go_wp2_with fail
              go_roundw
              case rel => exact ⟨k' + 1, g2, by go_num, hlt, hR.out, HGE.out, hB.out⟩
              case measure => simp [intOf]; omega
        · have hk3 : k' = M.length := by omega
          subst hk3
          rw [List.take_length] at HG
          go_wp2_with fail
          go_ret
          have HWB : Below w.heap.size w wr := (B2.out.trans (HB.out.mono B2.out.size)).trans (HB4.out.mono (Nat.le_trans B2.out.size hsz))
          have hs3 : w.heap.size ≤ w3.heap.size := Nat.le_trans B2.out.size hsz
          have hx0 : wr.cell? ⟨w3.heap.size, 0, none⟩ = some (.slice av M.length cv) := HRW.out.cell (i := 0) (by omega)
          have hsa : SetAt wr w3.heap.size M g := ⟨hwl, ⟨av, cv, HRW.out.cell (i := 0) (by omega), HPM.out.below HB4.out, HNV.out⟩, HRW.out.cell (i := 1) (by omega), HRW.out.cell (i := 2) (by omega)⟩
          refine ⟨⟨w3.heap.size, M, g, rfl, ⟨hsa, HMC.out, HMD.out, by rw [← hyl'.out]; exact hMl, fun c => (HMI.out c).trans (inR_perm HP.out c), bits_congr HG.out fun x _ => (HMI.out x).trans (inR_perm HP.out x)⟩, setAt_stays hsa hs3 (fun x c hx => by
            have hv := Option.some.inj (hx0.symm.trans hx)
            injection hv with h1
            exact Nat.le_trans B2.out.size (HOV.out x h1))⟩, HWB⟩
end Go.Proofs.Qxb6605195a
