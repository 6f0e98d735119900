import Derived.Test.Qxb6605294aMatch
set_option maxRecDepth 100000
namespace Go.Proofs.Qxb6605294a
open Go.ChangeShapes Go.WideShapes Go.ChangeAt Go.RowKit
set_option linter.unusedVariables false

/-- nothing but the blocks T and S has turned -/
def OnlyAt (T S : Nat) (ws wr : World) : Prop := wr.heap.size = ws.heap.size ∧ ∀ b, b ≠ T → b ≠ S → wr.heap[b]? = ws.heap[b]?
theorem OnlyAt.refl (T S : Nat) (w : World) : OnlyAt T S w w := ⟨rfl, fun _ _ _ => rfl⟩
theorem OnlyAt.setT {T S i : Nat} {ws wr : World} {v : Value} (h : OnlyAt T S ws wr) : OnlyAt T S ws (wr.setCell ⟨T, i, none⟩ v).drew :=
  ⟨by simpa using h.1, fun b h1 h2 => (Go.Deep.blk_setCell_other _ _ _ _ h1).trans (h.2 b h1 h2)⟩
theorem OnlyAt.setS {T S i : Nat} {ws wr : World} {v : Value} (h : OnlyAt T S ws wr) : OnlyAt T S ws (wr.setCell ⟨S, i, none⟩ v).drew :=
  ⟨by simpa using h.1, fun b h1 h2 => (Go.Deep.blk_setCell_other _ _ _ _ h2).trans (h.2 b h1 h2)⟩
theorem OnlyAt.cell {T S : Nat} {ws wr : World} (h : OnlyAt T S ws wr) {p : Addr} (h1 : p.block ≠ T) (h2 : p.block ≠ S) : wr.cell? p = ws.cell? p := World.cell?_of_block (h.2 p.block h1 h2)
theorem OnlyAt.row {T S b n : Nat} {t : TypeId} {f : Nat → Value} {ws wr : World} (h : OnlyAt T S ws wr) (h1 : b ≠ T) (h2 : b ≠ S) (hr : ws.rowIs b t n f) : wr.rowIs b t n f := hr.of_block (h.2 b h1 h2)
/-- a list whose block lies between B and T -/
def InB (w : World) (B T : Nat) (xs : List Int) (v : Value) : Prop := ∃ a c, v = .slice a xs.length c ∧ xs.length ≤ c ∧ IRow w a xs ∧ (a = none → xs = [] ∧ c = 0) ∧ ∀ x, a = some x → B ≤ x.block ∧ x.block < T
theorem InB.keep {w w' : World} {B T T' : Nat} {xs : List Int} {v : Value} (h : InB w B T xs v) (hT : T ≤ T') (hk : ∀ p : Addr, B ≤ p.block → p.block < T → w'.cell? p = w.cell? p) : InB w' B T' xs v := by
  obtain ⟨a, c, e, l, r, n, k⟩ := h
  refine ⟨a, c, e, l, r.keep fun x p hx hp => ?_, n, fun x hx => ⟨(k x hx).1, Nat.lt_of_lt_of_le (k x hx).2 hT⟩⟩
  exact hk p (by rw [hp]; exact (k x hx).1) (by rw [hp]; exact (k x hx).2)
def FillB (w : World) (B T : Nat) (xss : List (List Int)) (n : Nat) (f : Nat → Value) : Prop := ∀ i, i < n → InB w B T (xss.getD i []) (f i)
theorem FillB.keep {w w' : World} {B T T' n : Nat} {xss : List (List Int)} {f : Nat → Value} (h : FillB w B T xss n f) (hT : T ≤ T') (hk : ∀ p : Addr, B ≤ p.block → p.block < T → w'.cell? p = w.cell? p) : FillB w' B T' xss n f := fun i hi => (h i hi).keep hT hk
theorem FillB.step {w : World} {B T n : Nat} {xss : List (List Int)} {f : Nat → Value} {v : Value} (h : FillB w B T xss n f) (hv : InB w B T (xss.getD n []) v) : FillB w B T xss (n + 1) (fun j => if j = n then v else f j) := by
  intro i hi
  by_cases e : i = n
  · subst e; simp only [if_true]; exact hv
  · simp only [if_neg e]; exact h i (by omega)
theorem lrow_fillB {w : World} {R B T : Nat} {e : TypeId} {xss : List (List Int)} {f : Nat → Value} (h : w.rowIs R e xss.length f) (hT : T ≤ w.heap.size) (hf : FillB w B T xss xss.length f) : LRow w (some ⟨R, 0, none⟩) xss := by
  refine fun _ => ⟨R, 0, f, rfl, h.lt, fun i hi => ?_⟩
  rw [Nat.zero_add]
  refine ⟨h.cell hi, ?_⟩
  obtain ⟨a, c, e, l, r, n, k⟩ := hf i hi
  exact ⟨a, c, e, l, r, n⟩
theorem getD_map {α β : Type} (f : α → List β) (xs : List (List α)) (g : List α → List β) (hg : g [] = []) (i : Nat) : (xs.map g).getD i [] = g (xs.getD i []) := by
  rw [List.getD_eq_getElem?_getD, List.getD_eq_getElem?_getD, List.getElem?_map]
  cases xs[i]? with
  | none => simp [hg]
  | some x => rfl

set_option maxHeartbeats 8000000 in
theorem holds_any (g : Nat) (a : Option Addr) (c : Nat) (pss : List (List (Int × Int))) (w : World) (hm : pss.length ≤ 1048576) (hm2 : Hid (∀ i, (pss.getD i []).length ≤ 1048576)) (hg : w.cell? ⟨g, 0, none⟩ = some (.slice a pss.length c)) (hr : Hid (HRow w a pss)) :
    Calls Try.prog 41 #[.pointer (some ⟨g, 0, none⟩)] w fun e w' => (∃ a1 c1 a2 c2, e = .returned (.tuple #[.slice a1 (pss.map (·.map Prod.fst)).length c1, .slice a2 (pss.map (·.map Prod.snd)).length c2]) ∧ Hid (LRow w' a1 (pss.map (·.map Prod.fst))) ∧ Hid (LRow w' a2 (pss.map (·.map Prod.snd)))) ∧ Hid (Below w.heap.size w w') := by
  obtain ⟨i0, hi0, hz0, hz1, hz2⟩ := info_parts Try.info22
  obtain ⟨j0, hj0, hy0, hy1, hy2⟩ := info_parts Try.info46
  obtain ⟨k0, hk0, hx0, hx1, hx2⟩ := info_parts Try.info3
  obtain ⟨l0, hl0, hv0, hv1, hv2⟩ := info_parts Try.info2
  have lg := cell_lt' hg
  go_enter Try.func41, Try.ntmps41
  go_upto_region 2 with (at_make; refine wpList_make_full _ rfl _ _ 23 rfl w.heap.size 22 i0 (.slice none 0 0) 1 Try.underlying23 hi0 hz0 hz1 .i64 .i64 (pss.length : Int) (pss.length : Int) pss.length rfl rfl rfl rfl (by rw [hz2]; omega) (by unfold maxLen; omega) (Nat.le_refl _) ?_; intro w1 hown hgrow)
  have HB1 : Hid (Below w.heap.size w w1) := (Below.refl _ _).grown hgrow (Nat.le_refl _) (by simp)
  have HR1 := hid (rowIs_zero rfl hown)
  have hN1 := hid HR1.out.lt
  have hg1 := (HB1.out.cell (p := ⟨g, 0, none⟩) lg).trans hg
  clear hown hgrow
  go_upto_region 3 with (at_make; refine wpList_make_full _ rfl _ _ 44 rfl w1.heap.size 46 j0 (.slice none 0 0) 1 Try.underlying44 hj0 hy0 hy1 .i64 .i64 (pss.length : Int) (pss.length : Int) pss.length rfl rfl rfl rfl (by rw [hy2]; omega) (by unfold maxLen; omega) (Nat.le_refl _) ?_; intro w2 hown hgrow)
  have HB2 : Hid (Below w1.heap.size w1 w2) := (Below.refl _ _).grown hgrow (Nat.le_refl _) (by simp)
  have HR2 := hid (rowIs_zero rfl hown)
  have hN2 := hid HR2.out.lt
  have HR1' := hid (HR1.out.of_block (HB2.out.block w.heap.size hN1.out))
  have HBw2 := hid (below_next HB1.out HB2.out)
  clear hown hgrow hg1
  obtain ⟨N2, hN2e⟩ : ∃ N, N = w1.heap.size := ⟨_, rfl⟩
  rw [← hN2e] at HR2 hN2 ⊢
  have hN12 : w.heap.size < N2 := by rw [hN2e]; exact hN1.out
  clear HR1 hN1 HB1 HB2 hN2e
  go_wp2_with fail
  go_loopw [4] (fun i wr => ∃ (k : Nat) (f1 f2 : Nat → Value), k ≤ pss.length ∧ i = .int .i64 k ∧ Hid (wr.rowIs w.heap.size 22 pss.length f1) ∧ Hid (wr.rowIs N2 46 pss.length f2) ∧ Hid (FillB wr (N2 + 1) wr.heap.size (pss.map (·.map Prod.fst)) k f1) ∧ Hid (FillB wr (N2 + 1) wr.heap.size (pss.map (·.map Prod.snd)) k f2) ∧ Hid (Below w.heap.size w wr)) (fun i _ => pss.length - (intOf i).toNat)
  case atStart => exact ⟨0, _, _, Nat.zero_le _, rfl, HR1', HR2, fun i hi => by omega, fun i hi => by omega, HBw2⟩
  case round =>
    obtain ⟨k, f1, f2, hk, rfl, P1, P2, F1, F2, HB⟩ := hrel
    clear HR1' HR2 HBw2
    have g0 := (HB.out.cell (p := ⟨g, 0, none⟩) lg).trans hg
    have hn2 := P2.out.lt
    by_cases hlt : k < pss.length
    · obtain ⟨hbk, hok, ai, ci, ps, rfl, d1, hbl, RI, NI, X1, _⟩ := hr.out.get HB.out hlt
      have hpl : ps.length ≤ 1048576 := by rw [← X1.out]; exact hm2.out k
      have lh := cell_lt' d1
      obtain ⟨w3, hw3⟩ : ∃ x, x = wr := ⟨_, rfl⟩
      subst hw3
      have p1 := P1.out.cell (i := k) hlt
      have q1 := P1.out.frozen k
      go_upto_region 7 with (at_make; refine wpList_make_full _ rfl _ _ 22 rfl w3.heap.size 3 k0 (.int .i64 0) 1 Try.underlying22 hk0 hx0 hx1 .i64 .i64 (ps.length : Int) (ps.length : Int) ps.length rfl rfl rfl rfl (by rw [hx2]; omega) (by unfold maxLen; omega) (Nat.le_refl _) ?_; intro w4 hown hgrow; (have HB4 : Hid (Below w3.heap.size w3 w4) := (Below.refl _ _).grown hgrow (Nat.le_refl _) (by simp)); (have HT := hid (rowIs_zero rfl hown)); (have P1' := hid (P1.out.of_block (HB4.out.block w.heap.size P1.out.lt))); (have p1' := P1'.out.cell (i := k) hlt); (have q1' := P1'.out.frozen k); clear hown hgrow)
      obtain ⟨T, hTe⟩ : ∃ T, T = w3.heap.size := ⟨_, rfl⟩
      have hz34 := HB4.out.size
      have hTw4 : T < w4.heap.size := by rw [hTe]; exact HT.out.lt
      have nT1 : T ≠ w.heap.size := by have := HB.out.size; have := P1.out.lt; omega
      have nT2 : T ≠ N2 := by omega
      have n21 : N2 ≠ w.heap.size := by omega
      rw [← hTe] at HT ⊢
      have P15 := hid (P1'.out.set k (.slice (some ⟨T, 0, none⟩) ps.length ps.length))
      have T5 := hid (HT.out.setOther (a := ⟨w.heap.size, k, none⟩) (by exact nT1) (.slice (some ⟨T, 0, none⟩) ps.length ps.length))
      have P25 := hid ((P2.out.of_block (HB4.out.block N2 (by omega))).setOther (a := ⟨w.heap.size, k, none⟩) (by exact n21) (.slice (some ⟨T, 0, none⟩) ps.length ps.length))
      have K5 : Hid (∀ p : Addr, N2 + 1 ≤ p.block → p.block < T → (w4.setCell ⟨w.heap.size, k, none⟩ (.slice (some ⟨T, 0, none⟩) ps.length ps.length)).cell? p = w3.cell? p) := fun p x1 x2 => by
        rw [World.cell?_of_block (Go.Deep.blk_setCell_other w4 ⟨w.heap.size, k, none⟩ _ p.block (by show p.block ≠ w.heap.size; omega))]
        exact HB4.out.cell (by omega)
      have B5 : Hid (Below w.heap.size w (w4.setCell ⟨w.heap.size, k, none⟩ (.slice (some ⟨T, 0, none⟩) ps.length ps.length))) := (below_next HB.out HB4.out).setCell (Nat.le_refl _) _
      have hs5 : (w4.setCell ⟨w.heap.size, k, none⟩ (.slice (some ⟨T, 0, none⟩) ps.length ps.length)).heap.size = w4.heap.size := by simp
      obtain ⟨w5, hw5⟩ : ∃ x, x = w4.setCell ⟨w.heap.size, k, none⟩ (.slice (some ⟨T, 0, none⟩) ps.length ps.length) := ⟨_, rfl⟩
      rw [← hw5] at P15 T5 P25 K5 B5 hs5 ⊢
      clear hw5 p1 q1 p1' q1' g0 d1 P1' HT P1
      have g0 := (B5.out.cell (p := ⟨g, 0, none⟩) lg).trans hg
      obtain ⟨b', off', ai', ci', ps', e', d1, _, RI5, _, X5, _⟩ := hr.out.get B5.out hlt
      cases e'
      obtain rfl : ps = ps' := X1.out.symm.trans X5.out
      have p2 := P25.out.cell (i := k) hlt
      have HTe := hid hTe
      have HS5 := hid hs5
      have T3 := hid (show T ≤ w3.heap.size by omega)
      have TW5 := hid (show T < w5.heap.size by omega)
      have F15 := hid (F1.out.keep (w' := w5) (T' := T) (by omega) (fun p x1 x2 => K5.out p x1 (by omega)))
      have F25 := hid (F2.out.keep (w' := w5) (T' := T) (by omega) (fun p x1 x2 => K5.out p x1 (by omega)))
      clear hTe hs5 hTw4 hz34
      go_upto_region 8 with (at_make; refine wpList_make_full _ rfl _ _ 46 rfl w5.heap.size 2 l0 (.int .i64 0) 1 Try.underlying46 hl0 hv0 hv1 .i64 .i64 (ps.length : Int) (ps.length : Int) ps.length rfl rfl rfl rfl (by rw [hv2]; omega) (by unfold maxLen; omega) (Nat.le_refl _) ?_; intro w6 hown hgrow; (have HB6 : Hid (Below w5.heap.size w5 w6) := (Below.refl _ _).grown hgrow (Nat.le_refl _) (by simp)); (have HS := hid (rowIs_zero rfl hown)); (have P26 := hid (P25.out.of_block (HB6.out.block N2 P25.out.lt))); (have p2' := P26.out.cell (i := k) hlt); (have q2' := P26.out.frozen k); clear hown hgrow)
      obtain ⟨S, hSe⟩ : ∃ S, S = w5.heap.size := ⟨_, rfl⟩
      have hST : T < S := by rw [hSe]; exact TW5.out
      have nS1 : S ≠ w.heap.size := by have := B5.out.size; have := P15.out.lt; omega
      have nS2 : S ≠ N2 := by have := P25.out.lt; omega
      rw [← hSe] at HS ⊢
      have P17 := hid ((P15.out.of_block (HB6.out.block w.heap.size P15.out.lt)).setOther (a := ⟨N2, k, none⟩) (by show w.heap.size ≠ N2; omega) (.slice (some ⟨S, 0, none⟩) ps.length ps.length))
      have T7 := hid ((T5.out.of_block (HB6.out.block T T5.out.lt)).setOther (a := ⟨N2, k, none⟩) (by exact nT2) (.slice (some ⟨S, 0, none⟩) ps.length ps.length))
      have S7 := hid (HS.out.setOther (a := ⟨N2, k, none⟩) (by exact nS2) (.slice (some ⟨S, 0, none⟩) ps.length ps.length))
      have P27 := hid (P26.out.set k (.slice (some ⟨S, 0, none⟩) ps.length ps.length))
      have K7 : Hid (∀ p : Addr, N2 + 1 ≤ p.block → p.block < T → (w6.setCell ⟨N2, k, none⟩ (.slice (some ⟨S, 0, none⟩) ps.length ps.length)).cell? p = w5.cell? p) := fun p x1 x2 => by
        rw [World.cell?_of_block (Go.Deep.blk_setCell_other w6 ⟨N2, k, none⟩ _ p.block (by show p.block ≠ N2; omega))]
        exact HB6.out.cell (by omega)
      have B7 : Hid (Below w.heap.size w (w6.setCell ⟨N2, k, none⟩ (.slice (some ⟨S, 0, none⟩) ps.length ps.length))) := (below_next B5.out HB6.out).setCell (by show w.heap.size ≤ N2; omega) _
      have F17 := hid (F15.out.keep (T' := T) (Nat.le_refl _) K7.out)
      have F27 := hid (F25.out.keep (T' := T) (Nat.le_refl _) K7.out)
      have hs7 : Hid (S < (w6.setCell ⟨N2, k, none⟩ (.slice (some ⟨S, 0, none⟩) ps.length ps.length)).heap.size) := by
        have := HS.out.lt
        show S < _
        simpa using this
      obtain ⟨w7, hw7⟩ : ∃ x, x = w6.setCell ⟨N2, k, none⟩ (.slice (some ⟨S, 0, none⟩) ps.length ps.length) := ⟨_, rfl⟩
      rw [← hw7] at P17 T7 S7 P27 B7 F17 F27 hs7 ⊢
      clear hw7 hSe g0 d1 p2 p2' q2' P26 P25 P15 T5 HS F15 F25 F1 F2 K5 K7
      go_wp2_with fail
      go_loopw [5] (fun i wr => ∃ (j : Nat) (fT fS : Nat → Value), j ≤ ps.length ∧ i = .int .i64 j ∧ Hid (wr.rowIs T 3 ps.length fT) ∧ Hid (wr.rowIs S 2 ps.length fS) ∧ Hid (Filled (Value.int .i64) 0 (ps.map Prod.fst) j fT) ∧ Hid (Filled (Value.int .i64) 0 (ps.map Prod.snd) j fS) ∧ Hid (OnlyAt T S w7 wr) ∧ Hid (Below w.heap.size w wr)) (fun i _ => ps.length - (intOf i).toNat)
      case atStart => exact ⟨0, _, _, Nat.zero_le _, rfl, T7, S7, fun i hi => by omega, fun i hi => by omega, OnlyAt.refl _ _ _, B7⟩
      case round =>
        obtain ⟨j, fT, fS, hj, rfl, RT, RS, LT, LS, OA, BJ⟩ := hrel
        have g0 := (BJ.out.cell (p := ⟨g, 0, none⟩) lg).trans hg
        obtain ⟨b2, off2, ai2, ci2, ps2, e2, d1, _, RJ, _, X2, _⟩ := hr.out.get BJ.out hlt
        cases e2
        obtain rfl : ps = ps2 := X1.out.symm.trans X2.out
        have p1 := (OA.out.row (Ne.symm nT1) (Ne.symm nS1) P17.out).cell (i := k) hlt
        have p2 := (OA.out.row (Ne.symm nT2) (Ne.symm nS2) P27.out).cell (i := k) hlt
        simp only [if_true] at p1 p2
        by_cases hjt : j < ps.length
        · obtain ⟨pb, po, x, y, rfl, e1, e2, hpb, _, XP⟩ := RJ.out.get (Below.refl _ _) hjt
          have xP := XP.out
          have t1 := RT.out.cell (i := j) hjt
          have t2 := RT.out.frozen j
          have RT2 := hid ((RT.out.set j (.int .i64 x)).drew)
          have RS2 := hid ((RS.out.setOther (a := ⟨T, j, none⟩) (by show S ≠ T; omega) (.int .i64 x)).drew)
          have LT2 : Hid (Filled (Value.int .i64) 0 (ps.map Prod.fst) (j + 1) _) := filled_step LT.out (z := x) (by rw [List.getD_eq_getElem?_getD, List.getElem?_map]; rw [List.getD_eq_getElem?_getD] at xP; cases h : ps[j]? with
            | none => rw [List.getElem?_eq_getElem hjt] at h; cases h
            | some q => rw [h] at xP; simp at xP; simp [xP])
          have OA2 := hid (OA.out.setT (i := j) (v := .int .i64 x))
          have BA : Hid (Below w.heap.size w (wr.setCell ⟨T, j, none⟩ (.int .i64 x)).drew) := (BJ.out.setCell (by show w.heap.size ≤ T; have := HB.out.size; have := HTe.out; omega) _).drew
          clear p2
          go_upto_region 11 with fail
          go_region
          go_upto_region 12 with fail
          obtain ⟨wA, hwA⟩ : ∃ x', x' = (wr.setCell ⟨T, j, none⟩ (.int .i64 x)).drew := ⟨_, rfl⟩
          rw [← hwA] at RT2 RS2 OA2 BA ⊢
          clear hwA g0 d1 e1 e2 t1 t2 p1 RJ
          have g0 := (BA.out.cell (p := ⟨g, 0, none⟩) lg).trans hg
          obtain ⟨b3, off3, ai3, ci3, ps3, e3, d1, _, RJ3, _, X3, _⟩ := hr.out.get BA.out hlt
          cases e3
          obtain rfl : ps = ps3 := X1.out.symm.trans X3.out
          obtain ⟨pb3, po3, x3, y3, rfl, f1, f2, _, _, XP3⟩ := RJ3.out.get (Below.refl _ _) hjt
          have hxy := XP.out.symm.trans XP3.out
          simp only [Prod.mk.injEq] at hxy
          obtain ⟨rfl, rfl⟩ := hxy
          have p2 := (OA2.out.row (Ne.symm nT2) (Ne.symm nS2) P27.out).cell (i := k) hlt
          simp only [if_true] at p2
          have s1 := RS2.out.cell (i := j) hjt
          have s2 := RS2.out.frozen j
          have RT3 := hid ((RT2.out.setOther (a := ⟨S, j, none⟩) (by show T ≠ S; omega) (.int .i64 y)).drew)
          have RS3 := hid ((RS2.out.set j (.int .i64 y)).drew)
          have LS3 : Hid (Filled (Value.int .i64) 0 (ps.map Prod.snd) (j + 1) _) := filled_step LS.out (z := y) (by rw [List.getD_eq_getElem?_getD, List.getElem?_map]; rw [List.getD_eq_getElem?_getD] at xP; cases h : ps[j]? with
            | none => rw [List.getElem?_eq_getElem hjt] at h; cases h
            | some q => rw [h] at xP; simp at xP; simp [xP])
          have OA3 := hid (OA2.out.setS (i := j) (v := .int .i64 y))
          have BA3 : Hid (Below w.heap.size w (wA.setCell ⟨S, j, none⟩ (.int .i64 y)).drew) := (BA.out.setCell (by show w.heap.size ≤ S; have := HB.out.size; have := HTe.out; omega) _).drew
          clear XP XP3 xP
          go_region
          go_wp2_with fail
          go_roundw
          case rel => exact ⟨j + 1, _, _, hjt, by go_num, RT3, RS3, LT2, LS3, OA3, BA3⟩
          case measure => simp [intOf]; omega
        · have hje : j = ps.length := by omega
          have RTf := hid (row_filled (xs := ps.map Prod.fst) (by rw [List.length_map]; exact RT.out) (by rw [List.length_map, ← hje]; exact LT.out))
          have RSf := hid (row_filled (xs := ps.map Prod.snd) (by rw [List.length_map]; exact RS.out) (by rw [List.length_map, ← hje]; exact LS.out))
          have hszJ := OA.out.1
          have hSJ : S < wr.heap.size := by rw [hszJ]; exact hs7.out
          have KJ : ∀ p : Addr, N2 + 1 ≤ p.block → p.block < T → wr.cell? p = w7.cell? p := fun p x1 x2 => OA.out.cell (by omega) (by omega)
          have e1 : (pss.map (·.map Prod.fst)).getD k [] = ps.map Prod.fst := by rw [getD_map (fun x => []) _ _ rfl, X1.out]
          have e2 : (pss.map (·.map Prod.snd)).getD k [] = ps.map Prod.snd := by rw [getD_map (fun x => []) _ _ rfl, X1.out]
          have hT2 : N2 + 1 ≤ T := by have := HTe.out; omega
          have NF1 : Hid (FillB wr (N2 + 1) wr.heap.size (pss.map (·.map Prod.fst)) (k + 1) _) := (F17.out.keep (by omega) KJ).step (v := .slice (some ⟨T, 0, none⟩) ps.length ps.length) (by
            rw [e1]
            exact ⟨_, ps.length, by rw [List.length_map], by simp, RTf.out, fun h => (by cases h), fun x h => (by cases h; exact ⟨hT2, by show T < _; omega⟩)⟩)
          have NF2 : Hid (FillB wr (N2 + 1) wr.heap.size (pss.map (·.map Prod.snd)) (k + 1) _) := (F27.out.keep (by omega) KJ).step (v := .slice (some ⟨S, 0, none⟩) ps.length ps.length) (by
            rw [e2]
            exact ⟨_, ps.length, by rw [List.length_map], by simp, RSf.out, fun h => (by cases h), fun x h => (by cases h; exact ⟨by show N2 + 1 ≤ S; omega, hSJ⟩)⟩)
          have P1J := hid (OA.out.row (Ne.symm nT1) (Ne.symm nS1) P17.out)
          have P2J := hid (OA.out.row (Ne.symm nT2) (Ne.symm nS2) P27.out)
          clear e1 e2 KJ hszJ hje
          go_wp2_with fail
          go_roundw
          case rel => exact ⟨k + 1, _, _, hlt, by go_num, P1J, P2J, NF1, NF2, BJ⟩
          case measure => simp [intOf]; omega
    · have hke : k = pss.length := by omega
      have L1 := hid (lrow_fillB (xss := pss.map (·.map Prod.fst)) (by rw [List.length_map]; exact P1.out) (Nat.le_refl _) (by rw [List.length_map, ← hke]; exact F1.out))
      have L2 := hid (lrow_fillB (xss := pss.map (·.map Prod.snd)) (by rw [List.length_map]; exact P2.out) (Nat.le_refl _) (by rw [List.length_map, ← hke]; exact F2.out))
      clear hke
      go_wp2_with fail
      go_ret2
      exact ⟨⟨_, pss.length, _, pss.length, by simp, L1, L2⟩, HB⟩
theorem holdsC : HoldsC := fun g a c pss w h1 h2 h3 h4 => holds_any g a c pss w h1 h2 h3 h4
end Go.Proofs.Qxb6605294a
