import Derived.Test.Qxb6605179aMaps
import Derived.Deep.RegionWith
import Derived.Deep.Cut
import Derived.Deep.CutRange
import Derived.Laws.IdiomRangeMap
namespace Go.Proofs.Qxb6605179a
open Go.ChangeShapes Go.WideShapes Go.ChangeAt Go.RowKit Go.WideMaps Go.Maps
set_option linter.unusedVariables false

theorem ret_int {k : IntKind} {a b : Int} (h : a = b) : Ending.returned (.int k a) = .returned (.int k b) := by rw [h]

theorem map_any (a1 a2 : Option Addr) (l1 c1 l2 c2 : Nat) (w : World) (h1 : l1 ≤ 4096) (h2 : l2 ≤ 4096) (r1 : StrRow w a1 l1) (r2 : IntRow w a2 l2) :
    Calls Try.prog 17 #[.slice a1 l1 c1, .slice a2 l2 c2] w fun e w' => (∃ v D, e = .returned v ∧ MapAt w' v D) ∧ Below w.heap.size w w' := by
  by_cases h0 : 0 < l1 ∧ 0 < l2
  · obtain ⟨b1, off1, rfl, hc1⟩ := r1 h0.1
    obtain ⟨b2, off2, rfl, hc2⟩ := r2 h0.2
    refine (map_some b1 off1 l1 c1 b2 off2 l2 c2 (min l1 l2) w (by omega) rfl (by omega) (by omega) h1 h2 (fun i hi => hc1 i (by omega)) (fun i hi => hc2 i (by omega))).mono ?_
    rintro e w' ⟨⟨D, rfl, ho⟩, hb⟩
    exact ⟨⟨_, D, rfl, .inr ⟨_, _, rfl, ho⟩⟩, hb⟩
  · have hz : min l1 l2 = 0 := by omega
    have HZ : Hid (min l1 l2 = 0) := hz
    clear r1 r2 hz h0
    go_enter Try.func17, Try.ntmps17
    go_wp2_with (first | (go_at_call 23; refine (pair_any _ _ _ _ _ _ _ h1 h2).mono ?_; rintro e w' ⟨rfl, rfl⟩; rw [HZ.out]) | go_in)
    go_ret
    exact ⟨⟨_, .map [], rfl, .inl ⟨rfl, rfl⟩⟩, Below.refl _ _⟩

/-- what queuedOf answers for 'no more, no fewer' -/
def fq (cw ca : Int) : Int := max 0 (wrap64 (wrap64 (ca - cw)))
def getI (d : DataW Unit) : Int := match d with | .lit (.int _ n) => n | _ => 0

theorem queued_core (h q cw ca : Int) (vw va : Value) (s : ByteArray) (w : World)
    (hw : ∀ w', Below w.heap.size w w' → (Instr.lookup 31 vw (.string s) false).run Try.prog w' = .ok (.int .i64 cw) w')
    (ha : ∀ w', Below w.heap.size w w' → (Instr.lookup 31 va (.string s) false).run Try.prog w' = .ok (.int .i64 ca) w') :
    Calls Try.prog 24 #[.agg #[.int .i64 h, vw, va, .int .i64 q], .string s, .int .i64 0] w fun e w' => e = .returned (.int .i64 (fq cw ca)) ∧ Below w.heap.size w w' := by
  have e1 := hw (w.alloc (.cells #[.int .i64 h, vw, va, .int .i64 q] 33)) ((Below.refl _ _).alloc (Nat.le_refl _) _)
  have e2 := ha (w.alloc (.cells #[.int .i64 h, vw, va, .int .i64 q] 33)) ((Below.refl _ _).alloc (Nat.le_refl _) _)
  clear hw ha
  go_enter Try.func24, Try.ntmps24
  go_wp2
  all_goals
    go_ret
    exact ⟨ret_int (by unfold fq; omega), (Below.refl _ _).alloc (Nat.le_refl _) _⟩

/-- queuedOf(group, 0): a number that hangs on the two maps and the group alone -/
theorem queued_any (h q : Int) (vw va : Value) (Dw Da : DataW Unit) (s : ByteArray) (w : World) (hs : s.size ≤ maxLen) (hw : MapAt w vw Dw) (ha : MapAt w va Da) :
    Calls Try.prog 24 #[.agg #[.int .i64 h, vw, va, .int .i64 q], .string s, .int .i64 0] w fun e w' =>
      e = .returned (.int .i64 (fq (getI (Dw.atKey (.string s.data.toList) (.lit (.int .i64 0)))) (getI (Da.atKey (.string s.data.toList) (.lit (.int .i64 0)))))) ∧ Below w.heap.size w w' := by
  refine queued_core h q _ _ vw va s w (fun w' hb => ?_) (fun w' hb => ?_)
  · obtain ⟨c, hr, hc, _⟩ := (hw.below hb).look s hs
    rw [hr, hc]; rfl
  · obtain ⟨c, hr, hc, _⟩ := (ha.below hb).look s hs
    rw [hr, hc]; rfl

theorem bcell {B : Nat} {W w1 : World} (hb : Below B W w1) : ∀ b o, b < B → w1.cell? ⟨b, o, none⟩ = W.cell? ⟨b, o, none⟩ :=
  fun b o h => hb.cell (p := ⟨b, o, none⟩) h
theorem queued_two (h q : Int) (vw va : Value) (Dw Da : DataW Unit) (s : ByteArray) (w : World) (Bx : Nat) (hs : s.size ≤ maxLen) (hw : MapAt w vw Dw) (ha : MapAt w va Da) (hB : Bx < w.heap.size) :
    Calls Try.prog 24 #[.agg #[.int .i64 h, vw, va, .int .i64 q], .string s, .int .i64 0] w fun e w' =>
      e = .returned (.int .i64 (fq (getI (Dw.atKey (.string s.data.toList) (.lit (.int .i64 0)))) (getI (Da.atKey (.string s.data.toList) (.lit (.int .i64 0)))))) ∧ Hid (Below w.heap.size w w') ∧ MapAt w' vw Dw ∧ MapAt w' va Da ∧
      (∀ o, w'.cell? ⟨Bx, o, none⟩ = w.cell? ⟨Bx, o, none⟩) ∧ Bx < w'.heap.size := by
  refine (queued_any h q vw va Dw Da s w hs hw ha).mono ?_
  rintro e w' ⟨rfl, hb⟩
  exact ⟨rfl, hb, hw.below hb, ha.below hb, fun o => bcell hb _ o hB, Nat.lt_of_lt_of_le hB hb.size⟩
theorem ranges_below {w w' : World} {b r n : Nat} {D : DataW Unit} {left : Lit → Bool} {cnt : Nat} (h : w.ranges Try.prog 9 (plainElem Try.prog 3) b r n D left cnt) (hb : Below w.heap.size w w') :
    w'.ranges Try.prog 9 (plainElem Try.prog 3) b r n D left cnt := by
  have h1 := h.owns.lt
  have h2 := h.lt
  obtain ⟨es, clock, since, seen, c0, a1, a2, a3, a4, a5, a6⟩ := h
  exact ⟨es, clock, since, seen, c0, by rw [hb.block _ h1]; exact a1, a2, a3, a4, by rw [hb.block _ h2]; exact a5, a6⟩

theorem keyOf_str_inv {key : Value} {kl : Lit} (h : keyOf Try.prog 9 key = some kl) : ∃ s : ByteArray, key = .string s := by
  cases key <;> simp [keyOf, Try.underlying9, mapKey] at h
  exact ⟨_, rfl⟩
theorem keyOf_str_size {s : ByteArray} {kl : Lit} (h : keyOf Try.prog 9 (.string s) = some kl) : s.size ≤ maxLen := by
  simp [keyOf, Try.underlying9, mapKey] at h
  first | exact h.1 | omega

theorem num0 (q : Int) (h1 : -9223372036854775808 ≤ q) (h2 : q ≤ 9223372036854775807) : Value.int .i64 (IntKind.i64.wrap (q + IntKind.i64.wrap 0)) = .int .i64 q := by
  congr 1
  simp only [IntKind.wrap_i64]
  omega
/-- the two boxes of StatusWith -/
def W2 (w : World) (hc qc qd : Int) (b : Nat) (vw va vda : Value) : World :=
  (w.alloc (.cells #[.int .i64 hc, vw, va, .int .i64 qc] 33)).alloc (.cells #[.int .i64 0, .map (some b), vda, .int .i64 qd] 33)
/-- the loop's relation -/
def RelS (w W : World) (qc : Int) (b n : Nat) (Dd : DataW Unit) (q _g _n : Value) (wr : World) : Prop :=
  ∃ (left : Lit → Bool) (cnt : Nat), q = .int .i64 qc ∧ Hid (wr.ranges Try.prog 9 (plainElem Try.prog 3) b (w.heap.size + 2) n Dd left cnt) ∧ Hid (Below (w.heap.size + 2) W wr)

set_option maxHeartbeats 2000000 in
theorem status_loop (hc qc qd : Int) (b n : Nat) (vw va vda : Value) (Dw Da Dd : DataW Unit) (st : ByteArray) (w : World) (hh : hc ≤ 0) (hh2 : -9223372036854775808 ≤ hc) (hq1 : -9223372036854775808 ≤ qc) (hq2 : qc ≤ 9223372036854775807)
    (hst : Hid ((0 < qc ∧ st = { data := #[112, 101, 110, 100, 105, 110, 103] }) ∨ (qc ≤ 0 ∧ st = { data := #[100, 101, 97, 100] })))
    (mw : MapAt w vw Dw) (ma : MapAt w va Da) (md : w.ownsMap Try.prog 9 (plainElem Try.prog 3) b n Dd) (hz : ∀ kl, Dd.atKey kl (.lit (.int .i64 0)) = .lit (.int .i64 0)) :
    Calls Try.prog 19 #[.agg #[.int .i64 hc, vw, va, .int .i64 qc], .agg #[.int .i64 0, .map (some b), vda, .int .i64 qd]] w fun e w' =>
      e = .returned (.string st) ∧ Below w.heap.size w w' := by
  have MW : Hid (MapAt w vw Dw) := mw
  have MA : Hid (MapAt w va Da) := ma
  have HZ : Hid (∀ kl, Dd.atKey kl (.lit (.int .i64 0)) = .lit (.int .i64 0)) := hz
  have MD : Hid (w.ownsMap Try.prog 9 (plainElem Try.prog 3) b n Dd) := md
  have hbl := md.lt
  have e1 : ((w.alloc (.cells #[.int .i64 hc, vw, va, .int .i64 qc] 33)).alloc (.cells #[.int .i64 0, .map (some b), vda, .int .i64 qd] 33)).heap.size = w.heap.size + 2 := by simp
  clear mw ma hz md
  go_enter Try.func19, Try.ntmps19
  go_wp2_with (first | (at_range; refine wpList_range_own _ rfl _ 31 rfl 9 3 law9 Try.underlying31 _ b n Dd rfl ((MD.out.alloc _).alloc _) ?_; intro w0 hrg0 hg0 hs0) | go_in)
  go_frame
  rw [e1] at hrg0 hs0 ⊢
  have HB0 : Hid (Below (w.heap.size + 2) ((w.alloc (.cells #[.int .i64 hc, vw, va, .int .i64 qc] 33)).alloc (.cells #[.int .i64 0, .map (some b), vda, .int .i64 qd] 33)) w0) := (Below.refl _ _).grown hg0 (by simp) (fun j hj => by cases hj)
  have HW0 : Hid (Below w.heap.size w ((w.alloc (.cells #[.int .i64 hc, vw, va, .int .i64 qc] 33)).alloc (.cells #[.int .i64 0, .map (some b), vda, .int .i64 qd] 33))) := ((Below.refl _ _).alloc (Nat.le_refl _) _).alloc (by simp) _
  clear hg0 e1
  go_loopw [5, 6, 7] (RelS w (W2 w hc qc qd b vw va vda) qc b n Dd)
    (fun _ _ _ wr => wr.rangeLeft b (w.heap.size + 2))
  case atStart => exact ⟨_, _, rfl, hrg0, HB0⟩
  case round =>
    obtain ⟨left, cnt, rfl, HRG, HB⟩ := hrel
    clear hrg0 hs0 HB0
    go_wp2_with (first | (at_next; refine wpList_next_ranges _ rfl _ rfl 9 law9 _ Value.string (Value.int .i64) (fun key kl h => keyOf_str_inv h) (fun v y h => by obtain ⟨c, rfl, _⟩ := plainElem_int_inv Try.underlying3 h; exact ⟨c, rfl⟩) b (w.heap.size + 2) n _ _ _ rfl HRG.out ?_ ?_) | go_in)
    · intro hc0 hl0
      clear hl0
      rcases hst.out with ⟨h1, rfl⟩ | ⟨h1, rfl⟩
      all_goals
        go_wp2
        go_ret
        exact ⟨rfl, HW0.out.trans (HB.out.mono (by omega))⟩
    · intro s c kl d ps w1 cnt1 hkey hlk hv hat hrg1 hlt hg1 hs1 hen
      have hc0 : c = 0 := by
        obtain ⟨c', ec, ey, _⟩ := plainElem_int_inv Try.underlying3 hv
        cases ec
        have := hat (.lit (.int .i64 0))
        simp only [Prod.mk.injEq] at ey
        rw [HZ.out, ey.1] at this
        simpa using this.symm
      subst hc0
      have hsm := keyOf_str_size hkey
      have HB1 : Hid (Below (w.heap.size + 2) ((w.alloc (.cells #[.int .i64 hc, vw, va, .int .i64 qc] 33)).alloc (.cells #[.int .i64 0, .map (some b), vda, .int .i64 qd] 33)) w1) :=
        HB.out.grown hg1 (by have := HB.out.size; simp [W2] at this; omega) (fun j hj => by cases hj; omega)
      have HRG1 : Hid (w1.ranges Try.prog 9 (plainElem Try.prog 3) b (w.heap.size + 2) n Dd (fun z => left z && !z.sameKey kl) cnt1) := hrg1
      have MW1 : Hid (MapAt w1 vw Dw) := MW.out.below (HW0.out.trans (HB1.out.mono (by omega)))
      have MA1 : Hid (MapAt w1 va Da) := MA.out.below (HW0.out.trans (HB1.out.mono (by omega)))
      have hz1 : w.heap.size + 2 < w1.heap.size := by have := hrg1.lt; omega
      have cb := bcell HB1.out
      clear hkey hlk hv hat hrg1 hg1 hs1
      go_wp2
      go_region_with (go_at_call 24; refine (queued_two _ _ vw va Dw Da s _ w.heap.size hsm ?_ ?_ ?_).mono ?_; (first | assumption | exact MW1.out); (first | assumption | exact MA1.out); (first | assumption | (simp; omega)); rintro e w2 ⟨rfl, hb2, mw2, ma2, cb2, hz2⟩)
      all_goals
        rename_i wm hbm _ _ _ _
        have hbm' : Below w1.heap.size w1 wm := (Below.drew (Below.refl w1.heap.size w1)).trans hbm.out
        have hb3 : Below w1.heap.size w1 w2 := hbm'.trans (hb2.out.mono hbm'.size)
        have HRG2 : Hid (w2.ranges Try.prog 9 (plainElem Try.prog 3) b (w.heap.size + 2) n Dd (fun z => left z && !z.sameKey kl) cnt1) := ranges_below HRG1.out hb3
        have HB2 : Hid (Below (w.heap.size + 2) (W2 w hc qc qd b vw va vda) w2) := HB1.out.trans (hb3.mono (by omega))
        clear hbm hbm' hb3 hb2
        simp only [Act.put, List.getElem_toArray, List.getElem_cons_succ, List.getElem_cons_zero, List.setIfInBounds_toArray, List.set_cons_succ, List.set_cons_zero]
        rw [num0 qc hq1 hq2]
        go_wp2
        go_roundw
        case rel => exact ⟨_, cnt1, rfl, HRG2, HB2⟩
        case measure => rw [HRG2.out.left_eq, HRG.out.left_eq]; exact hlt

set_option maxHeartbeats 1000000 in
theorem status_run (hc qc qd : Int) (vw va vdw vda : Value) (w : World) (hh : 0 < hc) (hh2 : hc ≤ 9223372036854775807) :
    Calls Try.prog 19 #[.agg #[.int .i64 hc, vw, va, .int .i64 qc], .agg #[.int .i64 0, vdw, vda, .int .i64 qd]] w fun e w' =>
      e = .returned (.string { data := #[114, 117, 110, 110, 105, 110, 103] }) ∧ Below w.heap.size w w' := by
  go_enter Try.func19, Try.ntmps19
  go_wp2
  go_ret
  exact ⟨rfl, ((Below.refl _ _).alloc (Nat.le_refl _) _).alloc (by simp) _⟩

set_option maxHeartbeats 1000000 in
theorem status_nil (hc qc qd : Int) (vw va vda : Value) (st : ByteArray) (w : World) (hh : hc ≤ 0) (hh2 : -9223372036854775808 ≤ hc)
    (hst : Hid ((0 < qc ∧ st = { data := #[112, 101, 110, 100, 105, 110, 103] }) ∨ (qc ≤ 0 ∧ st = { data := #[100, 101, 97, 100] }))) :
    Calls Try.prog 19 #[.agg #[.int .i64 hc, vw, va, .int .i64 qc], .agg #[.int .i64 0, .map none, vda, .int .i64 qd]] w fun e w' =>
      e = .returned (.string st) ∧ Below w.heap.size w w' := by
  have e1 : ((w.alloc (.cells #[.int .i64 hc, vw, va, .int .i64 qc] 33)).alloc (.cells #[.int .i64 0, .map none, vda, .int .i64 qd] 33)).heap.size = w.heap.size + 2 := by simp
  have hrg := run_range_nilMap (P := Try.prog) ((w.alloc (.cells #[.int .i64 hc, vw, va, .int .i64 qc] 33)).alloc (.cells #[.int .i64 0, .map none, vda, .int .i64 qd] 33)) 31 9 3 Try.underlying31
  have hnx : ∀ ty, (Instr.next (.pointer (some ⟨((w.alloc (.cells #[.int .i64 hc, vw, va, .int .i64 qc] 33)).alloc (.cells #[.int .i64 0, .map none, vda, .int .i64 qd] 33)).heap.size, 0, none⟩)) false ty).run Try.prog (((w.alloc (.cells #[.int .i64 hc, vw, va, .int .i64 qc] 33)).alloc (.cells #[.int .i64 0, .map none, vda, .int .i64 qd] 33)).alloc (.mapIter none 0 #[] 0)) = _ := fun ty => run_next_nilMap _ ty 0 0 #[]
  rw [e1] at hrg hnx
  clear e1
  rcases hst.out with ⟨h1, rfl⟩ | ⟨h1, rfl⟩
  all_goals
    go_enter Try.func19, Try.ntmps19
    go_wp2
    refine wp_loop_rounds 1 ?_
    rw [rounds_succ]
    go_wp2
    go_ret
    exact ⟨rfl, (((Below.refl _ _).alloc (Nat.le_refl _) _).alloc (by simp) _).alloc (by simp; omega) _⟩

theorem status_any (hc qc qd : Int) (vw va vdw vda : Value) (Dw Da Dd : DataW Unit) (st : ByteArray) (w : World) (hh : hc ≤ 0) (hh2 : -9223372036854775808 ≤ hc) (hq1 : -9223372036854775808 ≤ qc) (hq2 : qc ≤ 9223372036854775807)
    (hst : Hid ((0 < qc ∧ st = { data := #[112, 101, 110, 100, 105, 110, 103] }) ∨ (qc ≤ 0 ∧ st = { data := #[100, 101, 97, 100] })))
    (mw : MapAt w vw Dw) (ma : MapAt w va Da) (md : MapAt w vdw Dd) (hz : ∀ kl, Dd.atKey kl (.lit (.int .i64 0)) = .lit (.int .i64 0)) :
    Calls Try.prog 19 #[.agg #[.int .i64 hc, vw, va, .int .i64 qc], .agg #[.int .i64 0, vdw, vda, .int .i64 qd]] w fun e w' =>
      e = .returned (.string st) ∧ Below w.heap.size w w' := by
  rcases md with ⟨rfl, _⟩ | ⟨b, n, rfl, ho⟩
  · exact status_nil hc qc qd vw va vda st w hh hh2 hst
  · exact status_loop hc qc qd b n vw va vda Dw Da Dd st w hh hh2 hq1 hq2 hst mw ma ho hz

end Go.Proofs.Qxb6605179a
