import Derived.Test.Qxb6605294aMem
set_option maxRecDepth 100000
namespace Go.Proofs.Qxb6605294a
open Go.ChangeShapes Go.WideShapes Go.ChangeAt Go.RowKit
set_option linter.unusedVariables false

/-! ### pairs of ints: [2]int -/
def PairRow (w : World) (a : Option Addr) (xs : List (Int × Int)) : Prop :=
  0 < xs.length → ∃ b off, a = some ⟨b, off, none⟩ ∧ ∀ i, i < xs.length → w.cell? ⟨b, off + i * 2, none⟩ = some (.int .i64 (xs.getD i (0, 0)).1) ∧ w.cell? ⟨b, off + i * 2 + 1, none⟩ = some (.int .i64 (xs.getD i (0, 0)).2)
theorem PairRow.below {w w' : World} {a : Option Addr} {xs : List (Int × Int)} (h : PairRow w a xs) (hb : Below w.heap.size w w') : PairRow w' a xs := by
  intro h0
  obtain ⟨b, off, e, hc⟩ := h h0
  refine ⟨b, off, e, fun i hi => ?_⟩
  obtain ⟨h1, h2⟩ := hc i hi
  exact ⟨by rw [hb.cell (cell_lt' h1)]; exact h1, by rw [hb.cell (cell_lt' h2)]; exact h2⟩
theorem PairRow.get {w wr : World} {a : Option Addr} {xs : List (Int × Int)} (h : PairRow w a xs) (hb : Below w.heap.size w wr) {i : Nat} (hi : i < xs.length) :
    ∃ b off x y, a = some ⟨b, off, none⟩ ∧ wr.cell? ⟨b, off + i * 2, none⟩ = some (.int .i64 x) ∧ wr.cell? ⟨b, off + i * 2 + 1, none⟩ = some (.int .i64 y) ∧ b < w.heap.size ∧ Hid (xs.drop i = (x, y) :: xs.drop (i + 1)) ∧ Hid (xs.getD i (0, 0) = (x, y)) := by
  obtain ⟨b, off, e, hc⟩ := h (by omega)
  obtain ⟨h1, h2⟩ := hc i hi
  have hbl := cell_lt' h1
  have he : xs.getD i (0, 0) = xs[i] := by rw [List.getD_eq_getElem?_getD, List.getElem?_eq_getElem hi]; rfl
  refine ⟨b, off, xs[i].1, xs[i].2, e, ?_, ?_, hbl, ?_, he⟩
  · rw [hb.cell hbl, h1, he]
  · rw [hb.cell (cell_lt' h2), h2, he]
  · exact List.drop_eq_getElem_cons hi
theorem pairRow_nil (w : World) (a : Option Addr) : PairRow w a [] := fun h => absurd h (by simp)
def RetPairs (B : Nat) (xs : List (Int × Int)) (e : Ending) (w' : World) : Prop := ∃ a c, e = .returned (.slice a xs.length c) ∧ Hid (PairRow w' a xs) ∧ Hid (a = none → xs = [] ∧ c = 0) ∧ Hid (∀ x, a = some x → B ≤ x.block)
theorem rowIs_of_own {w : World} {base : Nat} {e : TypeId} {size g n : Nat} {xs : List Value} (h : w.ownsRow base e size (.slice (some ⟨g, 0, none⟩) n n) n xs) :
    ∃ f, w.rowIs g e (n * size) f := by
  obtain ⟨hl, ⟨hv, _⟩ | ⟨g', cap, cur, hv, hb, hh, h1, h2, h3, h4⟩⟩ := h
  · cases hv
  · simp only [Value.slice.injEq, Option.some.injEq, Addr.mk.injEq] at hv
    obtain ⟨⟨rfl, _⟩, _, rfl⟩ := hv
    exact ⟨fun i => cur.getD i undef, cur, hh, h3, fun i hi => by simp [Array.getD, show i < cur.size by omega]⟩
def Filled2 (xs : List (Int × Int)) (n : Nat) (f : Nat → Value) : Prop := ∀ i, i < n → f (i * 2) = .int .i64 (xs.getD i (0, 0)).1 ∧ f (i * 2 + 1) = .int .i64 (xs.getD i (0, 0)).2
theorem filled2_step {xs : List (Int × Int)} {n : Nat} {f : Nat → Value} {x y : Int} (h : Filled2 xs n f) (hx : xs.getD n (0, 0) = (x, y)) :
    Filled2 xs (n + 1) (fun j => if j = n * 2 + 1 then .int .i64 y else if j = n * 2 then .int .i64 x else f j) := by
  intro i hi'
  by_cases e : i = n
  · subst e
    rw [hx]
    exact ⟨by dsimp only; rw [if_neg (by omega), if_pos rfl], by dsimp only; rw [if_pos rfl]⟩
  · have := h i (by omega)
    exact ⟨by dsimp only; rw [if_neg (by omega), if_neg (by omega)]; exact this.1, by dsimp only; rw [if_neg (by omega), if_neg (by omega)]; exact this.2⟩
theorem pairRow_filled {w : World} {B : Nat} {e : TypeId} {xs : List (Int × Int)} {f : Nat → Value} (h : w.rowIs B e (xs.length * 2) f) (hf : Filled2 xs xs.length f) : PairRow w (some ⟨B, 0, none⟩) xs := by
  refine fun _ => ⟨B, 0, rfl, fun i hi => ?_⟩
  rw [Nat.zero_add]
  have := hf i hi
  exact ⟨by rw [h.cell (by omega), this.1], by rw [h.cell (by omega), this.2]⟩
theorem Try.info73 : (Try.prog.info? 73).map (fun i => (i.zero, i.size, i.bytes)) = some (some (.agg #[.int .i64 0, .int .i64 0]), 2, 16) := by kernel_rfl
theorem eqNil45 (a : Option Addr) (n c : Nat) (w : World) : (binOp .eql 45 (.slice a n c) (.slice none 0 0)).run Try.prog w = .ok (.bool a.isNone) w := Lib.run_eql_slice_nil w 45 73 a n c 0 0 Try.underlying45

set_option maxHeartbeats 1000000 in
theorem copyKeys_some (a : Option Addr) (ha : a.isNone = false) (cap : Nat) (xs : List (Int × Int)) (w : World) (hm : xs.length ≤ 100000000) (hr : Hid (PairRow w a xs)) :
    Calls Try.prog 31 #[.slice a xs.length cap] w fun e w' => RetPairs w.heap.size xs e w' ∧ Hid (Below w.heap.size w w') := by
  obtain ⟨i0, hi0, hz0, hz1, hz2⟩ := info_parts Try.info73
  have hnl := eqNil45
  go_enter Try.func31, Try.ntmps31
  go_wp2_with (at_make; refine wpList_make_full _ rfl _ _ 45 rfl w.heap.size 73 i0 (.agg #[.int .i64 0, .int .i64 0]) 2 Try.underlying45 hi0 hz0 hz1 .i64 .i64 (xs.length : Int) (xs.length : Int) xs.length rfl rfl rfl rfl (by rw [hz2]; omega) (by unfold maxLen; omega) (Nat.le_refl _) ?_; intro w1 hown hgrow)
  obtain ⟨f0, hrow⟩ := rowIs_of_own hown
  have HB1 : Hid (Below w.heap.size w w1) := (Below.refl _ _).grown hgrow (Nat.le_refl _) (by simp)
  have HR1 : Hid (w1.rowIs w.heap.size 73 (xs.length * 2) f0) := hrow
  clear hown hgrow hrow
  go_loopw [4] (fun i wr => ∃ (k : Nat) (f : Nat → Value), k ≤ xs.length ∧ i = .int .i64 k ∧ Hid (wr.rowIs w.heap.size 73 (xs.length * 2) f) ∧ Hid (Filled2 xs k f) ∧ Hid (Below w.heap.size w wr)) (fun i _ => xs.length - (intOf i).toNat)
  case atStart => exact ⟨0, f0, Nat.zero_le _, rfl, HR1, fun i hi => by omega, HB1⟩
  case round =>
    obtain ⟨k, f, hk, rfl, HR, HF, HB⟩ := hrel
    clear HR1 HB1
    by_cases hlt : k < xs.length
    · obtain ⟨b, off, lo, hi, rfl, c1, c2, hbl, _, HX⟩ := hr.out.get HB.out hlt
      have d1 := HR.out.cell (i := k * 2) (by omega)
      have d2 := HR.out.cell (i := k * 2 + 1) (by omega)
      have e1 := HR.out.frozen (k * 2)
      have e2 := HR.out.frozen (k * 2 + 1)
      have HR2 : Hid (((wr.setCell ⟨w.heap.size, k * 2, none⟩ (.int .i64 lo)).setCell ⟨w.heap.size, k * 2 + 1, none⟩ (.int .i64 hi)).rowIs w.heap.size 73 (xs.length * 2) _) := (HR.out.set (k * 2) (.int .i64 lo)).set (k * 2 + 1) (.int .i64 hi)
      have HF2 := filled2_step HF.out HX.out
      have HF3 : Hid (Filled2 xs (k + 1) (fun j => if j = k * 2 + 1 then .int .i64 hi else if j = k * 2 then .int .i64 lo else f j)) := HF2
      have HB2 : Hid (Below w.heap.size w ((wr.setCell ⟨w.heap.size, k * 2, none⟩ (.int .i64 lo)).setCell ⟨w.heap.size, k * 2 + 1, none⟩ (.int .i64 hi))) := (HB.out.setCell (Nat.le_refl _) _).setCell (Nat.le_refl _) _
      clear HF2
      go_wp2_with fail
      go_roundw
      case rel => exact ⟨k + 1, _, hlt, by go_num, HR2, HF3, HB2⟩
      case measure => simp [intOf]; omega
    · have hke := hid (show k = xs.length by omega)
      go_wp2_with fail
      go_ret
      exact ⟨⟨_, _, rfl, pairRow_filled HR.out (by have := HF.out; rw [hke.out] at this; exact this), fun h => (by cases h), fun x h => (by cases h; exact Nat.le_refl _)⟩, HB⟩
theorem copyKeys_any (a : Option Addr) (cap : Nat) (xs : List (Int × Int)) (w : World) (hm : xs.length ≤ 100000000) (hr : Hid (PairRow w a xs)) (hn : Hid (a = none → xs = [] ∧ cap = 0)) :
    Calls Try.prog 31 #[.slice a xs.length cap] w fun e w' => RetPairs w.heap.size xs e w' ∧ Hid (Below w.heap.size w w') := by
  cases a with
  | some x => exact copyKeys_some (some x) rfl cap xs w hm hr
  | none =>
    obtain ⟨rfl, rfl⟩ := hn.out rfl
    have hnl := eqNil45
    go_enter Try.func31, Try.ntmps31
    go_wp2_with fail
    go_ret
    exact ⟨⟨none, 0, rfl, pairRow_nil _ _, fun _ => ⟨rfl, rfl⟩, fun x h => (by cases h)⟩, Below.refl _ _⟩

/-! ### lists of lists of ints -/
abbrev IRow := Row (Value.int .i64) (0 : Int)
/-- a value that is a list of ints; its block is at B or behind -/
def Inner (w : World) (B : Nat) (xs : List Int) (v : Value) : Prop := ∃ a c, v = .slice a xs.length c ∧ xs.length ≤ c ∧ IRow w a xs ∧ (a = none → xs = [] ∧ c = 0) ∧ ∀ x, a = some x → B ≤ x.block ∧ x.block < w.heap.size
theorem Inner.below {w w' : World} {B : Nat} {xs : List Int} {v : Value} (h : Inner w B xs v) (hb : Below w.heap.size w w') : Inner w' B xs v := by
  obtain ⟨a, c, e, l, r, n, k⟩ := h
  exact ⟨a, c, e, l, r.below hb, n, fun x hx => ⟨(k x hx).1, Nat.lt_of_lt_of_le (k x hx).2 hb.size⟩⟩
theorem Inner.set {w : World} {B N i : Nat} {xs : List Int} {v u : Value} (h : Inner w B xs v) (hN : N < B) : Inner (w.setCell ⟨N, i, none⟩ u) B xs v := by
  obtain ⟨a, c, e, l, r, n, k⟩ := h
  refine ⟨a, c, e, l, r.keep fun x p hx hp => ?_, n, fun x hx => ⟨(k x hx).1, by simpa using (k x hx).2⟩⟩
  have := (k x hx).1
  exact World.cell?_of_block (Go.Deep.blk_setCell_other _ _ _ _ (by show p.block ≠ N; omega))
/-- a value that is a list of ints that is only read; a list of no room may stand at any address -/
def InnerR (w : World) (xs : List Int) (v : Value) : Prop := ∃ a c, v = .slice a xs.length c ∧ xs.length ≤ c ∧ IRow w a xs ∧ (a = none → xs = [] ∧ c = 0)
theorem InnerR.below {w w' : World} {xs : List Int} {v : Value} (h : InnerR w xs v) (hb : Below w.heap.size w w') : InnerR w' xs v := by
  obtain ⟨a, c, e, l, r, n⟩ := h
  exact ⟨a, c, e, l, r.below hb, n⟩
/-- a slice of lists of ints that is only read -/
def LRow (w : World) (a : Option Addr) (xss : List (List Int)) : Prop :=
  0 < xss.length → ∃ (b off : Nat) (V : Nat → Value), a = some ⟨b, off, none⟩ ∧ b < w.heap.size ∧ ∀ i, i < xss.length → w.cell? ⟨b, off + i, none⟩ = some (V i) ∧ InnerR w (xss.getD i []) (V i)
theorem LRow.below {w w' : World} {a : Option Addr} {xss : List (List Int)} (h : LRow w a xss) (hb : Below w.heap.size w w') : LRow w' a xss := by
  intro h0
  obtain ⟨b, off, V, e, hl, hc⟩ := h h0
  exact ⟨b, off, V, e, Nat.lt_of_lt_of_le hl hb.size, fun i hi => ⟨by rw [hb.cell (p := ⟨b, off + i, none⟩) hl]; exact (hc i hi).1, (hc i hi).2.below hb⟩⟩
theorem LRow.get {w wr : World} {a : Option Addr} {xss : List (List Int)} (h : LRow w a xss) (hb : Below w.heap.size w wr) {i : Nat} (hi : i < xss.length) :
    ∃ b off ai ci xs, a = some ⟨b, off, none⟩ ∧ wr.cell? ⟨b, off + i, none⟩ = some (.slice ai (List.length xs) ci) ∧ b < w.heap.size ∧ Hid (IRow wr ai xs) ∧ Hid (ai = none → xs = [] ∧ ci = 0) ∧ Hid (xss.getD i [] = xs) ∧ Hid (xss.drop i = xs :: xss.drop (i + 1)) := by
  obtain ⟨b, off, V, e, hl, hc⟩ := h (by omega)
  obtain ⟨h1, ai, ci, hv, _, r, n⟩ := hc i hi
  refine ⟨b, off, ai, ci, _, e, ?_, hl, r.below hb, n, rfl, ?_⟩
  · rw [hb.cell (p := ⟨b, off + i, none⟩) hl, h1, hv]
  · rw [List.drop_eq_getElem_cons hi, List.getD_eq_getElem?_getD, List.getElem?_eq_getElem hi]; rfl
theorem lrow_nil (w : World) (a : Option Addr) : LRow w a [] := fun h => absurd h (by simp)
def RetL (B : Nat) (xss : List (List Int)) (e : Ending) (w' : World) : Prop := ∃ a c, e = .returned (.slice a xss.length c) ∧ Hid (LRow w' a xss) ∧ Hid (a = none → xss = [] ∧ c = 0) ∧ Hid (∀ x, a = some x → B ≤ x.block)
/-- the first k cells of the row N hold the first k lists, each behind N -/
def FilledL (w : World) (N : Nat) (xss : List (List Int)) (n : Nat) (f : Nat → Value) : Prop := ∀ i, i < n → Inner w (N + 1) (xss.getD i []) (f i)
theorem lrow_filled {w : World} {B : Nat} {e : TypeId} {xss : List (List Int)} {f : Nat → Value} (h : w.rowIs B e xss.length f) (hf : FilledL w B xss xss.length f) : LRow w (some ⟨B, 0, none⟩) xss := by
  refine fun _ => ⟨B, 0, f, rfl, h.lt, fun i hi => ?_⟩
  rw [Nat.zero_add]
  refine ⟨h.cell hi, ?_⟩
  obtain ⟨a, c, e, l, r, n, k⟩ := hf i hi
  exact ⟨a, c, e, l, r, n⟩
theorem filledL_step {wr w1 : World} {N : Nat} {xss : List (List Int)} {n : Nat} {f : Nat → Value} {xs : List Int} {a : Option Addr} {c : Nat} (h : FilledL wr N xss n f) (hb : Below wr.heap.size wr w1) (hN : N < wr.heap.size) (hx : xss.getD n [] = xs)
    (hl : xs.length ≤ c) (hr : IRow w1 a xs) (hn : a = none → xs = [] ∧ c = 0) (hk : ∀ x, a = some x → wr.heap.size ≤ x.block) (hk' : ∀ x, a = some x → x.block < w1.heap.size) :
    FilledL (w1.setCell ⟨N, n, none⟩ (.slice a xs.length c)) N xss (n + 1) (fun j => if j = n then .slice a xs.length c else f j) := by
  intro i hi
  refine Inner.set ?_ (Nat.lt_succ_self N)
  by_cases e : i = n
  · subst e
    simp only [if_true]
    rw [hx]
    exact ⟨a, c, rfl, hl, hr, hn, fun x h => ⟨by have := hk x h; omega, hk' x h⟩⟩
  · simp only [if_neg e]
    exact (h i (by omega)).below hb
theorem retRow_lt {w' : World} {a : Option Addr} {xs : List Int} (h : IRow w' a xs) (h0 : 0 < xs.length) : ∀ x, a = some x → x.block < w'.heap.size := by
  intro x hx
  obtain ⟨b, off, e, hc⟩ := h h0
  rw [hx] at e
  cases e
  exact cell_lt' (hc 0 h0)

theorem eqNil23 (a : Option Addr) (n c : Nat) (w : World) : (binOp .eql 23 (.slice a n c) (.slice none 0 0)).run Try.prog w = .ok (.bool a.isNone) w := Lib.run_eql_slice_nil w 23 22 a n c 0 0 Try.underlying23
set_option maxHeartbeats 1000000 in
theorem copyLists_some (a : Option Addr) (ha : a.isNone = false) (cap : Nat) (xss : List (List Int)) (w : World) (hm : xss.length ≤ 100000000) (hm2 : Hid (∀ i, (xss.getD i []).length ≤ 100000000)) (hr : Hid (LRow w a xss)) :
    Calls Try.prog 12 #[.slice a xss.length cap] w fun e w' => RetL w.heap.size xss e w' ∧ Hid (Below w.heap.size w w') := by
  obtain ⟨i0, hi0, hz0, hz1, hz2⟩ := info_parts Try.info22
  have hnl := eqNil23
  go_enter Try.func12, Try.ntmps12
  go_wp2_with (at_make; refine wpList_make_full _ rfl _ _ 23 rfl w.heap.size 22 i0 (.slice none 0 0) 1 Try.underlying23 hi0 hz0 hz1 .i64 .i64 (xss.length : Int) (xss.length : Int) xss.length rfl rfl rfl rfl (by rw [hz2]; omega) (by unfold maxLen; omega) (Nat.le_refl _) ?_; intro w1 hown hgrow)
  have HB1 : Hid (Below w.heap.size w w1) := (Below.refl _ _).grown hgrow (Nat.le_refl _) (by simp)
  have HR1 := hid (rowIs_zero rfl hown)
  clear hown hgrow
  go_loopw [4] (fun i wr => ∃ (k : Nat) (f : Nat → Value), k ≤ xss.length ∧ i = .int .i64 k ∧ Hid (wr.rowIs w.heap.size 22 xss.length f) ∧ Hid (FilledL wr w.heap.size xss k f) ∧ Hid (Below w.heap.size w wr)) (fun i _ => xss.length - (intOf i).toNat)
  case atStart => exact ⟨0, _, Nat.zero_le _, rfl, HR1, fun i hi => by omega, HB1⟩
  case round =>
    obtain ⟨k, f, hk, rfl, HR, HF, HB⟩ := hrel
    clear HR1 HB1
    by_cases hlt : k < xss.length
    · obtain ⟨b, off, ai, ci, xs, rfl, c1, hbl, RI, NI, HX, _⟩ := hr.out.get HB.out hlt
      have hxl : xs.length ≤ 100000000 := by rw [← HX.out]; exact hm2.out k
      have hNl := hid HR.out.lt
      go_wp2_with fail
      refine (copyInts_any ai ci xs wr hxl RI NI).mono ?_
      rintro e w2 ⟨⟨a2, c2, rfl, l2, R2, N2, KK⟩, B2⟩
      have K2 : Hid (∀ x, a2 = some x → wr.heap.size ≤ x.block) := fun x hx => (KK.out x hx).1
      have HR2 := hid (HR.out.of_block (B2.out.block w.heap.size hNl.out))
      have d1 := HR2.out.cell (i := k) hlt
      have e1 := HR2.out.frozen k
      have HR3 := hid (HR2.out.set k (.slice a2 xs.length c2))
      have K3 : Hid (∀ x, a2 = some x → x.block < w2.heap.size) := fun x hx => (KK.out x hx).2
      have HF3 := hid (filledL_step HF.out B2.out hNl.out HX.out l2 R2.out N2.out K2.out K3.out)
      have HB3 : Hid (Below w.heap.size w (w2.setCell ⟨w.heap.size, k, none⟩ (.slice a2 xs.length c2))) := (below_next HB.out B2.out).setCell (Nat.le_refl _) _
      go_wp2_with fail
      go_roundw
      case rel => exact ⟨k + 1, _, hlt, by go_num, HR3, HF3, HB3⟩
      case measure => simp [intOf]; omega
    · have hke := hid (show k = xss.length by omega)
      go_wp2_with fail
      go_ret
      exact ⟨⟨_, _, rfl, lrow_filled HR.out (by have := HF.out; rw [hke.out] at this; exact this), fun h => (by cases h), fun x h => (by cases h; exact Nat.le_refl _)⟩, HB⟩
theorem copyLists_any (a : Option Addr) (cap : Nat) (xss : List (List Int)) (w : World) (hm : xss.length ≤ 100000000) (hm2 : Hid (∀ i, (xss.getD i []).length ≤ 100000000)) (hr : Hid (LRow w a xss)) (hn : Hid (a = none → xss = [] ∧ cap = 0)) :
    Calls Try.prog 12 #[.slice a xss.length cap] w fun e w' => RetL w.heap.size xss e w' ∧ Hid (Below w.heap.size w w') := by
  cases a with
  | some x => exact copyLists_some (some x) rfl cap xss w hm hm2 hr
  | none =>
    obtain ⟨rfl, rfl⟩ := hn.out rfl
    have hnl := eqNil23
    go_enter Try.func12, Try.ntmps12
    go_wp2_with fail
    go_ret
    exact ⟨⟨none, 0, rfl, lrow_nil _ _, fun _ => ⟨rfl, rfl⟩, fun x h => (by cases h)⟩, Below.refl _ _⟩

theorem eqNil44 (a : Option Addr) (n c : Nat) (w : World) : (binOp .eql 44 (.slice a n c) (.slice none 0 0)).run Try.prog w = .ok (.bool a.isNone) w := Lib.run_eql_slice_nil w 44 46 a n c 0 0 Try.underlying44
set_option maxHeartbeats 1000000 in
theorem copyL64_some (a : Option Addr) (ha : a.isNone = false) (cap : Nat) (xss : List (List Int)) (w : World) (hm : xss.length ≤ 100000000) (hm2 : Hid (∀ i, (xss.getD i []).length ≤ 100000000)) (hr : Hid (LRow w a xss)) :
    Calls Try.prog 30 #[.slice a xss.length cap] w fun e w' => RetL w.heap.size xss e w' ∧ Hid (Below w.heap.size w w') := by
  obtain ⟨i0, hi0, hz0, hz1, hz2⟩ := info_parts Try.info46
  have hnl := eqNil44
  go_enter Try.func30, Try.ntmps30
  go_wp2_with (at_make; refine wpList_make_full _ rfl _ _ 44 rfl w.heap.size 46 i0 (.slice none 0 0) 1 Try.underlying44 hi0 hz0 hz1 .i64 .i64 (xss.length : Int) (xss.length : Int) xss.length rfl rfl rfl rfl (by rw [hz2]; omega) (by unfold maxLen; omega) (Nat.le_refl _) ?_; intro w1 hown hgrow)
  have HB1 : Hid (Below w.heap.size w w1) := (Below.refl _ _).grown hgrow (Nat.le_refl _) (by simp)
  have HR1 := hid (rowIs_zero rfl hown)
  clear hown hgrow
  go_loopw [4] (fun i wr => ∃ (k : Nat) (f : Nat → Value), k ≤ xss.length ∧ i = .int .i64 k ∧ Hid (wr.rowIs w.heap.size 46 xss.length f) ∧ Hid (FilledL wr w.heap.size xss k f) ∧ Hid (Below w.heap.size w wr)) (fun i _ => xss.length - (intOf i).toNat)
  case atStart => exact ⟨0, _, Nat.zero_le _, rfl, HR1, fun i hi => by omega, HB1⟩
  case round =>
    obtain ⟨k, f, hk, rfl, HR, HF, HB⟩ := hrel
    clear HR1 HB1
    by_cases hlt : k < xss.length
    · obtain ⟨b, off, ai, ci, xs, rfl, c1, hbl, RI, NI, HX, _⟩ := hr.out.get HB.out hlt
      have hxl : xs.length ≤ 100000000 := by rw [← HX.out]; exact hm2.out k
      have hNl := hid HR.out.lt
      go_wp2_with fail
      refine (copyI64_any ai ci xs wr hxl RI NI).mono ?_
      rintro e w2 ⟨⟨a2, c2, rfl, l2, R2, N2, KK⟩, B2⟩
      have K2 : Hid (∀ x, a2 = some x → wr.heap.size ≤ x.block) := fun x hx => (KK.out x hx).1
      have HR2 := hid (HR.out.of_block (B2.out.block w.heap.size hNl.out))
      have d1 := HR2.out.cell (i := k) hlt
      have e1 := HR2.out.frozen k
      have HR3 := hid (HR2.out.set k (.slice a2 xs.length c2))
      have K3 : Hid (∀ x, a2 = some x → x.block < w2.heap.size) := fun x hx => (KK.out x hx).2
      have HF3 := hid (filledL_step HF.out B2.out hNl.out HX.out l2 R2.out N2.out K2.out K3.out)
      have HB3 : Hid (Below w.heap.size w (w2.setCell ⟨w.heap.size, k, none⟩ (.slice a2 xs.length c2))) := (below_next HB.out B2.out).setCell (Nat.le_refl _) _
      go_wp2_with fail
      go_roundw
      case rel => exact ⟨k + 1, _, hlt, by go_num, HR3, HF3, HB3⟩
      case measure => simp [intOf]; omega
    · have hke := hid (show k = xss.length by omega)
      go_wp2_with fail
      go_ret
      exact ⟨⟨_, _, rfl, lrow_filled HR.out (by have := HF.out; rw [hke.out] at this; exact this), fun h => (by cases h), fun x h => (by cases h; exact Nat.le_refl _)⟩, HB⟩
theorem copyL64_any (a : Option Addr) (cap : Nat) (xss : List (List Int)) (w : World) (hm : xss.length ≤ 100000000) (hm2 : Hid (∀ i, (xss.getD i []).length ≤ 100000000)) (hr : Hid (LRow w a xss)) (hn : Hid (a = none → xss = [] ∧ cap = 0)) :
    Calls Try.prog 30 #[.slice a xss.length cap] w fun e w' => RetL w.heap.size xss e w' ∧ Hid (Below w.heap.size w w') := by
  cases a with
  | some x => exact copyL64_some (some x) rfl cap xss w hm hm2 hr
  | none =>
    obtain ⟨rfl, rfl⟩ := hn.out rfl
    have hnl := eqNil44
    go_enter Try.func30, Try.ntmps30
    go_wp2_with fail
    go_ret
    exact ⟨⟨none, 0, rfl, lrow_nil _ _, fun _ => ⟨rfl, rfl⟩, fun x h => (by cases h)⟩, Below.refl _ _⟩
end Go.Proofs.Qxb6605294a
