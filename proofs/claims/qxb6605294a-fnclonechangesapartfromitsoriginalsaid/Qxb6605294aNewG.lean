import Derived.Test.Qxb6605294aHolds
set_option maxRecDepth 100000
namespace Go.Proofs.Qxb6605294a
open Go.ChangeShapes Go.WideShapes Go.ChangeAt Go.RowKit
set_option linter.unusedVariables false

theorem Try.info99 : (Try.prog.info? 99).map (fun i => (i.zero, i.size, i.bytes)) = some (some (.slice none 0 0), 1, 24) := by kernel_rfl
theorem Try.info102 : (Try.prog.info? 102).map (fun i => (i.zero, i.size, i.bytes)) = some (some (.agg #[.int .i64 0, .int .i64 0]), 2, 16) := by kernel_rfl
theorem Try.info100 : (Try.prog.info? 100).map (fun i => (i.zero, i.size, i.bytes)) = some (some (.int .i64 0), 1, 8) := by kernel_rfl
theorem PairRow.keep {w w' : World} {a : Option Addr} {xs : List (Int × Int)} (h : PairRow w a xs) (hk : ∀ x p : Addr, a = some x → p.block = x.block → w'.cell? p = w.cell? p) : PairRow w' a xs := by
  intro h0
  obtain ⟨b, off, e, hc⟩ := h h0
  refine ⟨b, off, e, fun i hi => ?_⟩
  rw [hk _ ⟨b, off + i * 2, none⟩ e rfl, hk _ ⟨b, off + i * 2 + 1, none⟩ e rfl]; exact hc i hi
def InP (w : World) (B T : Nat) (xs : List (Int × Int)) (v : Value) : Prop := ∃ a c, v = .slice a xs.length c ∧ xs.length ≤ c ∧ PairRow w a xs ∧ (a = none → xs = [] ∧ c = 0) ∧ ∀ x, a = some x → B ≤ x.block ∧ x.block < T
theorem InP.keep {w w' : World} {B T T' : Nat} {xs : List (Int × Int)} {v : Value} (h : InP w B T xs v) (hT : T ≤ T') (hk : ∀ p : Addr, B ≤ p.block → p.block < T → w'.cell? p = w.cell? p) : InP w' B T' xs v := by
  obtain ⟨a, c, e, l, r, n, k⟩ := h
  refine ⟨a, c, e, l, r.keep fun x p hx hp => ?_, n, fun x hx => ⟨(k x hx).1, Nat.lt_of_lt_of_le (k x hx).2 hT⟩⟩
  exact hk p (by rw [hp]; exact (k x hx).1) (by rw [hp]; exact (k x hx).2)
def FillP (w : World) (B T : Nat) (xss : List (List (Int × Int))) (n : Nat) (f : Nat → Value) : Prop := ∀ i, i < n → InP w B T (xss.getD i []) (f i)
theorem FillP.keep {w w' : World} {B T T' n : Nat} {xss : List (List (Int × Int))} {f : Nat → Value} (h : FillP w B T xss n f) (hT : T ≤ T') (hk : ∀ p : Addr, B ≤ p.block → p.block < T → w'.cell? p = w.cell? p) : FillP w' B T' xss n f := fun i hi => (h i hi).keep hT hk
theorem FillP.step {w : World} {B T n : Nat} {xss : List (List (Int × Int))} {f : Nat → Value} {v : Value} (h : FillP w B T xss n f) (hv : InP w B T (xss.getD n []) v) : FillP w B T xss (n + 1) (fun j => if j = n then v else f j) := by
  intro i hi
  by_cases e : i = n
  · subst e; simp only [if_true]; exact hv
  · simp only [if_neg e]; exact h i (by omega)
theorem hrow_fillP {w : World} {R B T : Nat} {e : TypeId} {xss : List (List (Int × Int))} {f : Nat → Value} (h : w.rowIs R e xss.length f) (hT : T ≤ w.heap.size) (hf : FillP w B T xss xss.length f) : HRow w (some ⟨R, 0, none⟩) xss := by
  refine fun _ => ⟨R, 0, f, rfl, h.lt, fun i hi => ?_⟩
  rw [Nat.zero_add]
  refine ⟨h.cell hi, ?_⟩
  obtain ⟨a, c, e, l, r, n, k⟩ := hf i hi
  exact ⟨a, c, e, l, r, n, fun x hx => ⟨Nat.zero_le _, Nat.lt_of_lt_of_le (k x hx).2 hT⟩⟩
theorem FM.block {w w' : World} {b n : Nat} {D : DU} (h : FM w b n D) (hb : w'.heap[b]? = w.heap[b]?) : FM w' b n D := by
  obtain ⟨es, clock, h1, h2⟩ := h
  exact ⟨es, clock, hb.trans h1, h2⟩
def zipL (A0 A1 : List (List Int)) : List (List (Int × Int)) := List.zipWith (fun xs ys => xs.zip ys) A0 A1
theorem zipL_len {A0 A1 : List (List Int)} (h : A1.length = A0.length) : (zipL A0 A1).length = A0.length := by simp [zipL, h]
theorem zipL_get {A0 A1 : List (List Int)} (h : A1.length = A0.length) (i : Nat) : (zipL A0 A1).getD i [] = (A0.getD i []).zip (A1.getD i []) := by
  simp only [zipL, List.getD_eq_getElem?_getD, List.getElem?_zipWith]
  by_cases hi : i < A0.length
  · rw [List.getElem?_eq_getElem hi, List.getElem?_eq_getElem (show i < A1.length by omega)]; rfl
  · rw [List.getElem?_eq_none (by omega), List.getElem?_eq_none (show A1.length ≤ i by omega)]; rfl
theorem zip_get {xs ys : List Int} {j : Nat} {x y : Int} (hl : ys.length = xs.length) (hj : j < xs.length) (hx : xs.getD j 0 = x) (hy : ys.getD j 0 = y) : (xs.zip ys).getD j (0, 0) = (x, y) := by
  rw [List.getD_eq_getElem?_getD] at *
  rw [List.getElem?_eq_getElem hj] at hx
  rw [List.getElem?_eq_getElem (show j < ys.length by omega)] at hy
  rw [List.getElem?_eq_getElem (show j < (xs.zip ys).length by simp; omega)]
  simp at hx hy ⊢
  exact ⟨hx, hy⟩
theorem arr_getD {c : Array Value} {i : Nat} (hi : i < c.size) : c[i]? = some (c.getD i undef) := by simp [Array.getD, hi]
/-- the graph's ten cells -/
def gf (v0 v1 v2 v3 v4 v5 v6 v7 v8 v9 : Value) : Nat → Value := fun i => #[v0, v1, v2, v3, v4, v5, v6, v7, v8, v9].getD i undef

theorem gf_set0 (v v0 v1 v2 v3 v4 v5 v6 v7 v8 v9 : Value) (i : Nat) (hi : i < 10) : (if i = 0 then v else gf v0 v1 v2 v3 v4 v5 v6 v7 v8 v9 i) = gf v v1 v2 v3 v4 v5 v6 v7 v8 v9 i := by
  match i, hi with
  | 0, _ => rfl
  | 1, _ => rfl
  | 2, _ => rfl
  | 3, _ => rfl
  | 4, _ => rfl
  | 5, _ => rfl
  | 6, _ => rfl
  | 7, _ => rfl
  | 8, _ => rfl
  | 9, _ => rfl
theorem gf_set7 (v v0 v1 v2 v3 v4 v5 v6 v7 v8 v9 : Value) (i : Nat) (hi : i < 10) : (if i = 7 then v else gf v0 v1 v2 v3 v4 v5 v6 v7 v8 v9 i) = gf v0 v1 v2 v3 v4 v5 v6 v v8 v9 i := by
  match i, hi with
  | 0, _ => rfl
  | 1, _ => rfl
  | 2, _ => rfl
  | 3, _ => rfl
  | 4, _ => rfl
  | 5, _ => rfl
  | 6, _ => rfl
  | 7, _ => rfl
  | 8, _ => rfl
  | 9, _ => rfl

/-- all older blocks but F and gb are as they were -/
def Kept (F gb : Nat) (w w' : World) : Prop := w.heap.size ≤ w'.heap.size ∧ ∀ b, b < w.heap.size → b ≠ F → b ≠ gb → w'.heap[b]? = w.heap[b]?
theorem Kept.refl (F gb : Nat) (w : World) : Kept F gb w w := ⟨Nat.le_refl _, fun _ _ _ _ => rfl⟩
theorem Kept.grown {F gb : Nat} {w w' w'' : World} {row : Option Nat} (h : Kept F gb w w') (hg : w'.grownBy w'' row) (hr : ∀ k, row = some k → k = F ∨ k = gb ∨ w.heap.size ≤ k) : Kept F gb w w'' :=
  ⟨Nat.le_trans h.1 hg.size, fun b h1 h2 h3 => (hg.block b (Nat.lt_of_lt_of_le h1 h.1) (fun e => by rcases hr b e.symm with h | h | h <;> omega)).trans (h.2 b h1 h2 h3)⟩
theorem Kept.set {F gb : Nat} {w w' : World} {a : Addr} {v : Value} (h : Kept F gb w w') (ha : a.block = F ∨ a.block = gb ∨ w.heap.size ≤ a.block) : Kept F gb w (w'.setCell a v) :=
  ⟨by simpa using h.1, fun b h1 h2 h3 => (Go.Deep.blk_setCell_other _ _ _ _ (by rcases ha with h | h | h <;> omega)).trans (h.2 b h1 h2 h3)⟩
theorem Kept.drew {F gb : Nat} {w w' : World} (h : Kept F gb w w') : Kept F gb w w'.drew := h

set_option maxHeartbeats 8000000 in
theorem newGraph_any (a0 a1 a5 a6 a9 : Option Addr) (c0 c1 c5 c6 c9 : Nat) (A0 A1 : List (List Int)) (K5 : List (Int × Int)) (V6 P9 : List Int) (b2 b3 b4 b7 b8 b10 : Option Addr) (n2 d2 n3 d3 n4 d4 n7 d7 n8 d8 n10 d10 : Nat) (w : World)
    (l0 : A0.length ≤ 1048576) (lk : K5.length ≤ 1048576) (l9 : P9.length ≤ 1048576) (m0 : Hid (∀ i, (A0.getD i []).length ≤ 1048576)) (e01 : Hid (A1.length = A0.length)) (e56 : Hid (V6.length = K5.length)) (er : Hid (∀ i, i < A0.length → (A1.getD i []).length = (A0.getD i []).length)) (hwk : Hid (∀ k ∈ K5, wfK k)) (hwv : Hid (∀ v ∈ V6, (Lit.int .i64 v).wf = true))
    (R0 : Hid (LRow w a0 A0)) (R1 : Hid (LRow w a1 A1)) (R5 : Hid (PairRow w a5 K5)) (R6 : Hid (IRow w a6 V6)) (R9 : Hid (IRow w a9 P9)) :
    Calls Try.prog 34 #[.slice a0 A0.length c0, .slice a1 A1.length c1, .slice b2 n2 d2, .slice b3 n3 d3, .slice b4 n4 d4, .slice a5 K5.length c5, .slice a6 V6.length c6, .slice b7 n7 d7, .slice b8 n8 d8, .slice a9 P9.length c9, .slice b10 n10 d10] w
      fun e w' => (∃ gb h fb, ∃ (p : Option Addr) (pc : Nat), e = .returned (.pointer (some ⟨gb, 0, none⟩)) ∧ Hid (w'.rowIs gb 98 10 (gf (.slice h A0.length A0.length) (.slice b2 n2 d2) (.slice b3 n3 d3) (.slice b4 n4 d4) (.map (some fb)) (.slice b7 n7 d7) (.slice b8 n8 d8) (.slice p P9.length pc) (.slice b10 n10 d10) (.pointer none))) ∧ Hid (HRow w' h (zipL A0 A1)) ∧ Hid (FM w' fb K5.length (factsD K5 V6 (.map []))) ∧ Hid (IRow w' p P9)) ∧ Hid (Below w.heap.size w w') := by
  obtain ⟨i0, hi0, hz0, hz1, hz2⟩ := info_parts Try.info99
  obtain ⟨j0, hj0, hy0, hy1, hy2⟩ := info_parts Try.info102
  obtain ⟨k0, hk0, hx0, hx1, hx2⟩ := info_parts Try.info100
  have hmk := mk75
  go_enter Try.func34, Try.ntmps34
  go_upto_region 2 with fail
  have B1 := hid (((Below.refl w.heap.size w).alloc (Nat.le_refl _) (.map #[] 0)).alloc (by simp) (Obj.cells #[.slice none 0 0, .slice b2 n2 d2, .slice b3 n3 d3, .slice b4 n4 d4, .map (some w.heap.size), .slice b7 n7 d7, .slice b8 n8 d8, .slice none 0 0, .slice b10 n10 d10, .pointer none] 98))
  have M1 : Hid (FM ((w.alloc (.map #[] 0)).alloc (Obj.cells #[.slice none 0 0, .slice b2 n2 d2, .slice b3 n3 d3, .slice b4 n4 d4, .map (some w.heap.size), .slice b7 n7 d7, .slice b8 n8 d8, .slice none 0 0, .slice b10 n10 d10, .pointer none] 98)) w.heap.size 0 (.map [])) := (World.ownsMap_made w Try.prog 73 (plainElem (H := Unit) Try.prog 3)).alloc _
  have G1 : Hid (((w.alloc (.map #[] 0)).alloc (Obj.cells #[.slice none 0 0, .slice b2 n2 d2, .slice b3 n3 d3, .slice b4 n4 d4, .map (some w.heap.size), .slice b7 n7 d7, .slice b8 n8 d8, .slice none 0 0, .slice b10 n10 d10, .pointer none] 98)).rowIs (w.heap.size + 1) 98 10 (gf (.slice none 0 0) (.slice b2 n2 d2) (.slice b3 n3 d3) (.slice b4 n4 d4) (.map (some w.heap.size)) (.slice b7 n7 d7) (.slice b8 n8 d8) (.slice none 0 0) (.slice b10 n10 d10) (.pointer none))) := by
    have := World.rowIs_alloc (w.alloc (.map #[] 0)) #[.slice none 0 0, .slice b2 n2 d2, .slice b3 n3 d3, .slice b4 n4 d4, .map (some w.heap.size), .slice b7 n7 d7, .slice b8 n8 d8, .slice none 0 0, .slice b10 n10 d10, .pointer none] 98 (gf (.slice none 0 0) (.slice b2 n2 d2) (.slice b3 n3 d3) (.slice b4 n4 d4) (.map (some w.heap.size)) (.slice b7 n7 d7) (.slice b8 n8 d8) (.slice none 0 0) (.slice b10 n10 d10) (.pointer none)) (fun i hi => arr_getD hi)
    have e : (w.alloc (.map #[] 0)).heap.size = w.heap.size + 1 := by simp
    rw [e] at this
    exact this
  obtain ⟨w1, hw1⟩ : ∃ x, x = ((w.alloc (.map #[] 0)).alloc (Obj.cells #[.slice none 0 0, .slice b2 n2 d2, .slice b3 n3 d3, .slice b4 n4 d4, .map (some w.heap.size), .slice b7 n7 d7, .slice b8 n8 d8, .slice none 0 0, .slice b10 n10 d10, .pointer none] 98)) := ⟨_, rfl⟩
  rw [← hw1] at B1 M1 G1 ⊢
  clear hw1
  obtain ⟨F, hF⟩ : ∃ F, F = w.heap.size := ⟨_, rfl⟩
  obtain ⟨gb, hgb⟩ : ∃ x, x = w.heap.size + 1 := ⟨_, rfl⟩
  have HFe := hid hF
  have HGe := hid hgb
  rw [← hgb] at G1 ⊢
  rw [← hF] at M1 G1 ⊢
  have nFG : F ≠ gb := by omega
  clear hF hgb
  go_upto_region 3 with (at_make; refine wpList_make_full _ rfl _ _ 94 rfl w1.heap.size 99 i0 (.slice none 0 0) 1 Try.underlying94 hi0 hz0 hz1 .i64 .i64 (A0.length : Int) (A0.length : Int) A0.length rfl rfl rfl rfl (by rw [hz2]; omega) (by unfold maxLen; omega) (Nat.le_refl _) ?_; intro w2 hown hgrow; (have B2 : Hid (Below w1.heap.size w1 w2) := (Below.refl _ _).grown hgrow (Nat.le_refl _) (by simp)); (have H2 := hid (rowIs_zero rfl hown)); (have G2 := hid (G1.out.of_block (B2.out.block gb G1.out.lt))); (have q0 := G2.out.cell (i := 0) (by omega)); (have q0' := G2.out.frozen 0); clear hown hgrow)
  obtain ⟨h, hh⟩ : ∃ x, x = w1.heap.size := ⟨_, rfl⟩
  have hgl := G1.out.lt
  have hFl := M1.out.lt
  have nGh : gb ≠ h := by omega
  have nFh : F ≠ h := by omega
  rw [← hh] at H2 ⊢
  have G3 := hid ((G2.out.set 0 (.slice (some ⟨h, 0, none⟩) A0.length A0.length)).congr (gf_set0 _ _ _ _ _ _ _ _ _ _ _))
  have H3 := hid (H2.out.setOther (a := ⟨gb, 0, none⟩) (by exact Ne.symm nGh) (.slice (some ⟨h, 0, none⟩) A0.length A0.length))
  have M3 : Hid (FM (w2.setCell ⟨gb, 0, none⟩ (.slice (some ⟨h, 0, none⟩) A0.length A0.length)) F 0 (.map [])) := FM.block (M1.out.below B2.out) (Go.Deep.blk_setCell_other _ _ _ _ (by exact nFG))
  have B3 : Hid (Below w.heap.size w (w2.setCell ⟨gb, 0, none⟩ (.slice (some ⟨h, 0, none⟩) A0.length A0.length))) := (below_next B1.out B2.out).setCell (by show w.heap.size ≤ gb; have := HGe.out; omega) _
  obtain ⟨w3, hw3⟩ : ∃ x, x = w2.setCell ⟨gb, 0, none⟩ (.slice (some ⟨h, 0, none⟩) A0.length A0.length) := ⟨_, rfl⟩
  rw [← hw3] at G3 H3 M3 B3 ⊢
  have hgh : gb < h := by omega
  clear hw3 hh q0 q0' G2 H2 G1 M1 B1 B2 hgl hFl
  go_wp2_with fail
  go_loopw [24] (fun i wr => ∃ (k : Nat) (fh : Nat → Value), k ≤ A0.length ∧ i = .int .i64 k ∧ Hid (wr.rowIs h 99 A0.length fh) ∧ Hid (wr.rowIs gb 98 10 (gf (.slice (some ⟨h, 0, none⟩) A0.length A0.length) (.slice b2 n2 d2) (.slice b3 n3 d3) (.slice b4 n4 d4) (.map (some F)) (.slice b7 n7 d7) (.slice b8 n8 d8) (.slice none 0 0) (.slice b10 n10 d10) (.pointer none))) ∧ Hid (FM wr F 0 (.map [])) ∧ Hid (FillP wr (h + 1) wr.heap.size (zipL A0 A1) k fh) ∧ Hid (Below w.heap.size w wr)) (fun i _ => A0.length - (intOf i).toNat)
  case atStart => exact ⟨0, _, Nat.zero_le _, rfl, H3, G3, M3, fun i hi => by omega, B3⟩
  case round =>
    obtain ⟨k, fh, hk, rfl, HH, HG, HM, HP, HB⟩ := hrel
    clear H3 G3 M3 B3
    have g0 : wr.cell? ⟨gb, 0, none⟩ = some (.slice (some ⟨h, 0, none⟩) A0.length A0.length) := HG.out.cell (i := 0) (by omega)
    by_cases hlt : k < A0.length
    · have hlt1 : k < A1.length := by rw [e01.out]; exact hlt
      obtain ⟨x0, y0, ai, ci, xs, rfl, e0, hx0l, RI, NI, X0, _⟩ := R0.out.get HB.out hlt
      have hxl : xs.length ≤ 1048576 := by rw [← X0.out]; exact m0.out k
      have h1 := HH.out.cell (i := k) hlt
      have h2 := HH.out.frozen k
      obtain ⟨w4, hmake, hown, hgrow⟩ := run_make_full (P := Try.prog) wr.drew wr.heap.size 99 102 j0 (.agg #[.int .i64 0, .int .i64 0]) 2 Try.underlying99 hj0 hy0 hy1 .i64 .i64 xs.length (by rw [hy2]; omega) (by unfold maxLen; omega) (Nat.le_refl _)
      obtain ⟨fT0, hT0⟩ := rowIs_of_own hown
      have HT0 : Hid (w4.rowIs wr.heap.size 102 (xs.length * 2) fT0) := hT0
      have B4 : Hid (Below wr.heap.size wr w4) := (Below.drew (Below.refl wr.heap.size wr)).grown hgrow (Nat.le_refl _) (by simp)
      have e0' := (B4.out.cell (p := ⟨x0, y0 + k, none⟩) (cell_lt' e0)).trans e0
      have g0' := (B4.out.cell (p := ⟨gb, 0, none⟩) (cell_lt' g0)).trans g0
      have h1' := (B4.out.cell (p := ⟨h, k, none⟩) (cell_lt' h1)).trans h1
      have h2' := (B4.out.frozen (p := ⟨h, k, none⟩) (cell_lt' h1)).trans h2
      clear hown hgrow hT0
      go_upto_region 6 with fail
      go_region
      obtain ⟨T, hT⟩ : ∃ T, T = wr.heap.size := ⟨_, rfl⟩
      have HTe := hid hT
      have hhl := HH.out.lt
      have hgl := HG.out.lt
      have hFl := HM.out.lt
      have nTh : T ≠ h := by omega
      have nTg : T ≠ gb := by omega
      have nTF : T ≠ F := by omega
      have hTh : h < T := by omega
      have hTw : w.heap.size ≤ T := by have := HB.out.size; omega
      rw [← hT] at HT0 ⊢
      have H5 := hid ((HH.out.of_block (B4.out.block h hhl)).set k (.slice (some ⟨T, 0, none⟩) xs.length xs.length))
      have G5 := hid ((HG.out.of_block (B4.out.block gb hgl)).setOther (a := ⟨h, k, none⟩) (by exact nGh) (.slice (some ⟨T, 0, none⟩) xs.length xs.length))
      have M5 : Hid (FM (w4.setCell ⟨h, k, none⟩ (.slice (some ⟨T, 0, none⟩) xs.length xs.length)) F 0 (.map [])) := FM.block (HM.out.below B4.out) (Go.Deep.blk_setCell_other _ _ _ _ (by exact nFh))
      have T5 := hid (HT0.out.setOther (a := ⟨h, k, none⟩) (by exact nTh) (.slice (some ⟨T, 0, none⟩) xs.length xs.length))
      have K5' : Hid (∀ p : Addr, h + 1 ≤ p.block → p.block < T → (w4.setCell ⟨h, k, none⟩ (.slice (some ⟨T, 0, none⟩) xs.length xs.length)).cell? p = wr.cell? p) := fun p x1 x2 => by
        rw [World.cell?_of_block (Go.Deep.blk_setCell_other w4 ⟨h, k, none⟩ _ p.block (by show p.block ≠ h; omega))]
        exact B4.out.cell (by omega)
      have P5 := hid (HP.out.keep (T' := T) (by omega) (fun p x1 x2 => K5'.out p x1 (by omega)))
      have B5 : Hid (Below w.heap.size w (w4.setCell ⟨h, k, none⟩ (.slice (some ⟨T, 0, none⟩) xs.length xs.length))) := (below_next HB.out B4.out).setCell (by show w.heap.size ≤ h; have := HGe.out; omega) _
      have S5 : Hid (T < (w4.setCell ⟨h, k, none⟩ (.slice (some ⟨T, 0, none⟩) xs.length xs.length)).heap.size) := T5.out.lt
      obtain ⟨w5, hw5⟩ : ∃ x, x = w4.setCell ⟨h, k, none⟩ (.slice (some ⟨T, 0, none⟩) xs.length xs.length) := ⟨_, rfl⟩
      rw [← hw5] at H5 G5 M5 T5 P5 B5 S5 ⊢
      clear hw5 hT g0 g0' e0 e0' h1 h1' h2 h2' hmake HT0 K5' hhl hgl hFl
      go_wp2_with fail
      go_loopw [25] (fun i wr => ∃ (j : Nat) (fT : Nat → Value), j ≤ xs.length ∧ i = .int .i64 j ∧ Hid (wr.rowIs T 102 (xs.length * 2) fT) ∧ Hid (Filled2 (xs.zip (A1.getD k [])) j fT) ∧ Hid (OnlyAt T T w5 wr) ∧ Hid (Below w.heap.size w wr)) (fun i _ => xs.length - (intOf i).toNat)
      case atStart => exact ⟨0, _, Nat.zero_le _, rfl, T5, fun i hi => by omega, OnlyAt.refl _ _ _, B5⟩
      case round =>
        obtain ⟨j, fT, hj, rfl, RT, LT, OA, BJ⟩ := hrel
        have g0 : wr.cell? ⟨gb, 0, none⟩ = some (.slice (some ⟨h, 0, none⟩) A0.length A0.length) := (OA.out.row (Ne.symm nTg) (Ne.symm nTg) G5.out).cell (i := 0) (by omega)
        have h1 := (OA.out.row (Ne.symm nTh) (Ne.symm nTh) H5.out).cell (i := k) hlt
        simp only [if_true] at h1
        obtain ⟨x1, y1, ai1, ci1, xs1, ee1, e1, _, RI1, _, X1, _⟩ := R0.out.get BJ.out hlt
        cases ee1
        obtain rfl : xs = xs1 := X0.out.symm.trans X1.out
        by_cases hjt : j < xs.length
        · obtain ⟨x2, y2, ai2, ci2, ys, ee2, e2, _, RI2, _, X2, _⟩ := R1.out.get BJ.out hlt1
          have hyl : ys.length = xs.length := by rw [← X2.out, ← X1.out]; exact er.out k hlt
          have hjy : j < ys.length := by omega
          obtain ⟨p1, o1, u, rfl, u1, _, _, _, U1⟩ := RI1.out.get (Below.refl _ _) hjt
          obtain ⟨p2, o2, v, rfl, v1, _, _, _, V1⟩ := RI2.out.get (Below.refl _ _) hjy
          subst ee2
          have t1 := RT.out.cell (i := j * 2) (by omega)
          have t2 := RT.out.cell (i := j * 2 + 1) (by omega)
          have t3 := RT.out.frozen (j * 2)
          have t4 := RT.out.frozen (j * 2 + 1)
          have hze : (xs.zip (A1.getD k [])).getD j (0, 0) = (u, v) := by rw [X2.out]; exact zip_get hyl hjt U1.out V1.out
          have LT2 := filled2_step LT.out hze
          have LT3 : Hid (Filled2 (xs.zip (A1.getD k [])) (j + 1) (fun jj => if jj = j * 2 + 1 then .int .i64 v else if jj = j * 2 then .int .i64 u else fT jj)) := LT2
          have RT2 : Hid ((((wr.setCell ⟨T, j * 2, none⟩ (.int .i64 u)).setCell ⟨T, j * 2 + 1, none⟩ (.int .i64 v)).drew).rowIs T 102 (xs.length * 2) _) := ((RT.out.set (j * 2) (.int .i64 u)).set (j * 2 + 1) (.int .i64 v)).drew
          have OA2 : Hid (OnlyAt T T w5 (((wr.setCell ⟨T, j * 2, none⟩ (.int .i64 u)).setCell ⟨T, j * 2 + 1, none⟩ (.int .i64 v)).drew)) := OnlyAt.setT (OnlyAt.setT OA.out)
          have BA2 : Hid (Below w.heap.size w (((wr.setCell ⟨T, j * 2, none⟩ (.int .i64 u)).setCell ⟨T, j * 2 + 1, none⟩ (.int .i64 v)).drew)) := ((BJ.out.setCell (by exact hTw) _).setCell (by exact hTw) _).drew
          clear X1 X2 U1 V1 LT2 hze
          go_upto_region 10 with fail
          go_region
          go_wp2_with fail
          go_roundw
          case rel => exact ⟨j + 1, _, hjt, by go_num, RT2, LT3, OA2, BA2⟩
          case measure => simp [intOf]; omega
        · have hje : j = xs.length := by omega
          have hyl : (A1.getD k []).length = xs.length := by rw [← X1.out]; exact er.out k hlt
          have hzl : (xs.zip (A1.getD k [])).length = xs.length := by rw [List.length_zip]; omega
          have PR := hid (pairRow_filled (xs := xs.zip (A1.getD k [])) (by rw [hzl]; exact RT.out) (by rw [hzl, ← hje]; exact LT.out))
          have hszJ := OA.out.1
          have hTJ : T < wr.heap.size := by rw [hszJ]; exact S5.out
          have KJ : ∀ p : Addr, h + 1 ≤ p.block → p.block < T → wr.cell? p = w5.cell? p := fun p x1 x2 => OA.out.cell (by omega) (by omega)
          have eZ : (zipL A0 A1).getD k [] = xs.zip (A1.getD k []) := by rw [zipL_get e01.out, X1.out]
          have NF : Hid (FillP wr (h + 1) wr.heap.size (zipL A0 A1) (k + 1) _) := (P5.out.keep (by omega) KJ).step (v := .slice (some ⟨T, 0, none⟩) xs.length xs.length) (by
            rw [eZ]
            exact ⟨_, xs.length, by rw [hzl], by rw [hzl]; exact Nat.le_refl _, PR.out, fun h => (by cases h), fun x h => (by cases h; exact ⟨hTh, hTJ⟩)⟩)
          have HJ := hid (OA.out.row (Ne.symm nTh) (Ne.symm nTh) H5.out)
          have GJ := hid (OA.out.row (Ne.symm nTg) (Ne.symm nTg) G5.out)
          have MJ := hid (FM.block M5.out (OA.out.2 F (Ne.symm nTF) (Ne.symm nTF)))
          clear hyl hzl KJ eZ hszJ hje
          go_wp2_with fail
          go_roundw
          case rel => exact ⟨k + 1, _, hlt, by go_num, HJ, GJ, MJ, NF, BJ⟩
          case measure => simp [intOf]; omega
    · have hke : k = A0.length := by omega
      have FP := hid (show FillP wr (h + 1) wr.heap.size (zipL A0 A1) A0.length fh by rw [← hke]; exact HP.out)
      obtain ⟨wE, hwE⟩ : ∃ x, x = wr := ⟨_, rfl⟩
      subst hwE
      have hFl := HM.out.lt
      have hgl := HG.out.lt
      have hhl := HH.out.lt
      clear hke g0 HP
      go_wp2_with fail
      go_loopw [26] (fun i wr => ∃ (k : Nat) (D : DU), k ≤ K5.length ∧ i = .int .i64 k ∧ Hid (FM wr F k D) ∧ Hid (factsD (K5.drop k) (V6.drop k) D = factsD K5 V6 (.map [])) ∧ Hid (wr.rowIs gb 98 10 (gf (.slice (some ⟨h, 0, none⟩) A0.length A0.length) (.slice b2 n2 d2) (.slice b3 n3 d3) (.slice b4 n4 d4) (.map (some F)) (.slice b7 n7 d7) (.slice b8 n8 d8) (.slice none 0 0) (.slice b10 n10 d10) (.pointer none))) ∧ Hid (Kept F gb wE wr) ∧ Hid (Below w.heap.size w wr)) (fun i _ => K5.length - (intOf i).toNat)
      case atStart => exact ⟨0, .map [], Nat.zero_le _, rfl, HM, rfl, HG, Kept.refl _ _ _, HB⟩
      case round =>
        obtain ⟨k, D, hk, rfl, HF, HD, HGr, HKr, HBr⟩ := hrel
        have g4 : wr.cell? ⟨gb, 4, none⟩ = some (.map (some F)) := HGr.out.cell (i := 4) (by omega)
        by_cases hlt : k < K5.length
        · have hlt' : k < V6.length := by rw [e56.out]; exact hlt
          obtain ⟨kb, ko, x, y, rfl, d1, d2', kl1, X1, X2⟩ := R5.out.get HBr.out hlt
          obtain ⟨vb, vo, z, rfl, d3', _, vl1, Y1, Y2⟩ := R6.out.get HBr.out hlt'
          have hx := hwk.out (x, y) (mem_drop X1.out)
          have hz := hwv.out z (mem_drop Y1.out)
          have hkey := kl_ok hx
          have hval := plainElem_int (H := Unit) Try.underlying3 hz
          have HN := hid (show factsD (K5.drop (k + 1)) (V6.drop (k + 1)) (D.put (kl (x, y)) (.lit (.int .i64 z))) = factsD K5 V6 (.map []) by rw [← factsD_step D X1.out Y1.out]; exact HD.out)
          clear X1 X2 Y1 Y2 HD
          unfold kv at hkey
          dsimp only at hkey
          obtain ⟨w10, hup, hown1, hgrow1⟩ := (show FM wr.drew F k D from HF.out).update keyed73 Try.underlying75 (by unfold maxLen; omega) hkey hval
          have HF1 := hid hown1
          have HBn : Hid (Below w.heap.size w w10) := HBr.out.drew.grown hgrow1 (HBr.out.size) (fun i hi => by cases hi; have := HFe.out; omega)
          have HKn := hid (HKr.out.drew.grown hgrow1 (fun i hi => by cases hi; exact .inl rfl))
          have HGn : Hid (w10.rowIs gb 98 10 _) := HGr.out.drew.of_block (hgrow1.block gb HGr.out.lt (by simp; exact Ne.symm nFG))
          clear hown1 hgrow1
          go_upto_region 14 with fail
          go_region
          go_wp2_with fail
          go_roundw
          case rel => exact ⟨k + 1, _, hlt, by go_num, HF1, HN, HGn, HKn, HBn⟩
          case measure => simp [intOf]; omega
        · have HDF := hid (show D = factsD K5 V6 (.map []) by
            have := HD.out
            rw [List.drop_of_length_le (by omega), List.drop_of_length_le (by rw [e56.out]; omega)] at this
            rw [show factsD [] [] D = D from by unfold factsD; rfl] at this
            exact this)
          have hkK : k = K5.length := by omega
          have HFF := hid (show FM wr F K5.length (factsD K5 V6 (.map [])) by rw [← HDF.out, ← hkK]; exact HF.out)
          obtain ⟨wF, hwF⟩ : ∃ x, x = wr := ⟨_, rfl⟩
          subst hwF
          clear hkK HD HF HDF g4
          go_upto_region 16 with (at_make; refine wpList_make_full _ rfl _ _ 95 rfl wF.heap.size 100 k0 (.int .i64 0) 1 Try.underlying95 hk0 hx0 hx1 .i64 .i64 (P9.length : Int) (P9.length : Int) P9.length rfl rfl rfl rfl (by rw [hx2]; omega) (by unfold maxLen; omega) (Nat.le_refl _) ?_; intro wG hown hgrow; (have BG : Hid (Below wF.heap.size wF wG) := (Below.refl _ _).grown hgrow (Nat.le_refl _) (by simp)); (have KG := hid (HKr.out.grown hgrow (fun i hi => by cases hi))); (have HQ := hid (rowIs_zero rfl hown)); (have GG := hid (HGr.out.of_block (BG.out.block gb HGr.out.lt))); (have q7 := GG.out.cell (i := 7) (by omega)); (have q7' := GG.out.frozen 7); clear hown hgrow)
          obtain ⟨Pb, hPb⟩ : ∃ x, x = wF.heap.size := ⟨_, rfl⟩
          have hgF := HGr.out.lt
          have hFF := HFF.out.lt
          have hEF := HKr.out.1
          have nPg : Pb ≠ gb := by omega
          have nPF : Pb ≠ F := by omega
          have hPE : wE.heap.size ≤ Pb := by omega
          have hPw : w.heap.size ≤ Pb := by have := HBr.out.size; omega
          rw [← hPb] at HQ ⊢
          have GH := hid ((GG.out.set 7 (.slice (some ⟨Pb, 0, none⟩) P9.length P9.length)).congr (gf_set7 _ _ _ _ _ _ _ _ _ _ _))
          have QH := hid (HQ.out.setOther (a := ⟨gb, 7, none⟩) (by exact nPg) (.slice (some ⟨Pb, 0, none⟩) P9.length P9.length))
          have FH : Hid (FM (wG.setCell ⟨gb, 7, none⟩ (.slice (some ⟨Pb, 0, none⟩) P9.length P9.length)) F K5.length (factsD K5 V6 (.map []))) := FM.block (HFF.out.below BG.out) (Go.Deep.blk_setCell_other _ _ _ _ (by exact nFG))
          have KH := hid (KG.out.set (a := ⟨gb, 7, none⟩) (v := .slice (some ⟨Pb, 0, none⟩) P9.length P9.length) (.inr (.inl rfl)))
          have BH : Hid (Below w.heap.size w (wG.setCell ⟨gb, 7, none⟩ (.slice (some ⟨Pb, 0, none⟩) P9.length P9.length))) := (below_next HBr.out BG.out).setCell (by show w.heap.size ≤ gb; have := HGe.out; omega) _
          obtain ⟨wH, hwH⟩ : ∃ x, x = wG.setCell ⟨gb, 7, none⟩ (.slice (some ⟨Pb, 0, none⟩) P9.length P9.length) := ⟨_, rfl⟩
          rw [← hwH] at GH QH FH KH BH ⊢
          clear hwH hPb q7 q7' GG HQ hgF hFF hEF
          go_wp2_with fail
          go_loopw [27] (fun i wr => ∃ (k : Nat) (f : Nat → Value), k ≤ P9.length ∧ i = .int .i64 k ∧ Hid (wr.rowIs Pb 100 P9.length f) ∧ Hid (Filled (Value.int .i64) 0 P9 k f) ∧ Hid (wr.rowIs gb 98 10 (gf (.slice (some ⟨h, 0, none⟩) A0.length A0.length) (.slice b2 n2 d2) (.slice b3 n3 d3) (.slice b4 n4 d4) (.map (some F)) (.slice b7 n7 d7) (.slice b8 n8 d8) (.slice (some ⟨Pb, 0, none⟩) P9.length P9.length) (.slice b10 n10 d10) (.pointer none))) ∧ Hid (FM wr F K5.length (factsD K5 V6 (.map []))) ∧ Hid (Kept F gb wE wr) ∧ Hid (Below w.heap.size w wr)) (fun i _ => P9.length - (intOf i).toNat)
          case atStart => exact ⟨0, _, Nat.zero_le _, rfl, QH, fun i hi => by omega, GH, FH, KH, BH⟩
          case round =>
            obtain ⟨k, f, hk, rfl, HQ, HL, HGk, HFk, HKk, HBk⟩ := hrel
            have g7 : wr.cell? ⟨gb, 7, none⟩ = some (.slice (some ⟨Pb, 0, none⟩) P9.length P9.length) := HGk.out.cell (i := 7) (by omega)
            by_cases hlt : k < P9.length
            · obtain ⟨vb, vo, z, rfl, d3', _, vl1, _, Y2⟩ := R9.out.get HBk.out hlt
              have t1 := HQ.out.cell (i := k) hlt
              have t2 := HQ.out.frozen k
              have HQ2 := hid ((HQ.out.set k (.int .i64 z)).drew)
              have HL2 := hid (filled_step HL.out Y2.out)
              have HG2 := hid ((HGk.out.setOther (a := ⟨Pb, k, none⟩) (by exact Ne.symm nPg) (.int .i64 z)).drew)
              have HF2 : Hid (FM (wr.setCell ⟨Pb, k, none⟩ (.int .i64 z)).drew F K5.length (factsD K5 V6 (.map []))) := FM.block HFk.out (Go.Deep.blk_setCell_other _ _ _ _ (by exact Ne.symm nPF))
              have HK2 := hid (HKk.out.set (a := ⟨Pb, k, none⟩) (v := .int .i64 z) (.inr (.inr hPE))).drew
              have HB2 : Hid (Below w.heap.size w (wr.setCell ⟨Pb, k, none⟩ (.int .i64 z)).drew) := (HBk.out.setCell (by exact hPw) _).drew
              clear Y2
              go_upto_region 19 with fail
              go_region
              go_wp2_with fail
              go_roundw
              case rel => exact ⟨k + 1, _, hlt, by go_num, HQ2, HL2, HG2, HF2, HK2, HB2⟩
              case measure => simp [intOf]; omega
            · have hkP : k = P9.length := by omega
              have RP := hid (row_filled HQ.out (by rw [← hkP]; exact HL.out))
              have zl := zipL_len e01.out
              have RH := hid (hrow_fillP (xss := zipL A0 A1) (w := wr) (T := wr.heap.size) (by rw [zl]; exact HH.out.of_block (HKk.out.2 h hhl (Ne.symm nFh) (Ne.symm nGh))) (Nat.le_refl _) (by
                rw [zl]
                exact FP.out.keep HKk.out.1 (fun p x1 x2 => World.cell?_of_block (HKk.out.2 p.block x2 (by have := HFe.out; have := HGe.out; omega) (by omega)))))
              clear hkP zl
              go_wp2_with fail
              go_ret
              exact ⟨⟨gb, _, F, _, _, rfl, HGk, RH, HFk, RP⟩, HBk⟩
end Go.Proofs.Qxb6605294a
