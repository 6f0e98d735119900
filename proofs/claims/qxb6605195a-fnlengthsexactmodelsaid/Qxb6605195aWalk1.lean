import Derived.Test.Qxb6605195aMem
import Derived.Deep.OwnRows
namespace Go.Proofs.Qxb6605195a
open Go.ChangeShapes Go.WideShapes Go.ChangeAt Go.RowKit Plain
set_option linter.unusedVariables false
set_option maxRecDepth 100000

/-! ### appendRanges -/
/-- a result that owns a list of pairs -/
def RetOwn (k : IntKind) (B : Nat) (e : TypeId) (xs : List (Int × Int)) (en : Ending) (w' : World) : Prop := ∃ v, en = .returned v ∧ w'.ownsRow B e 2 v xs.length (flat k xs)
theorem retOwn_mk {k : IntKind} {B : Nat} {e : TypeId} {xs : List (Int × Int)} {v : Value} {w' : World} (h : w'.ownsRow B e 2 v xs.length (flat k xs)) : RetOwn k B e xs (.returned v) w' := ⟨v, rfl, h⟩

set_option maxHeartbeats 1000000 in
theorem app_any (a : Option Addr) (cap : Nat) (v : Value) (xs ys : List (Int × Int)) (w0 w : World) (hm : xs.length + ys.length ≤ 1048576) (hr : Hid (PairRow .i32 w0 a ys)) (h0 : Hid (Below w0.heap.size w0 w)) (hown : Hid (w.ownsRow w0.heap.size 58 2 v xs.length (flat .i32 xs))) :
    Calls Try.prog 18 #[v, .slice a ys.length cap] w fun e w' => RetOwn .i32 w0.heap.size 58 (xs ++ ys) e w' ∧ Below w0.heap.size w0 w' := by
  obtain ⟨i0, hi0, hz0, hz1, hz2⟩ := info_parts Try.info58
  go_enter Try.func18, Try.ntmps18
  go_wp2_with fail
  go_loopw [0, 9] (fun v i wr => ∃ k : Nat, k ≤ ys.length ∧ i = .int .i64 k ∧ Hid (wr.ownsRow w0.heap.size 58 2 v (xs ++ ys.take k).length (flat .i32 (xs ++ ys.take k))) ∧ Hid (Below w0.heap.size w0 wr)) (fun _ i _ => ys.length - (intOf i).toNat)
  case atStart => exact ⟨0, Nat.zero_le _, rfl, by rw [List.take_zero, List.append_nil]; exact hown, h0⟩
  case round =>
    obtain ⟨k, hk, rfl, HO, HB⟩ := hrel
    clear hown h0
    by_cases hlt : k < ys.length
    · obtain ⟨b, off, lo, hi, rfl, c1, c2, hbl, HX, HM⟩ := hr.out.get HB.out hlt
      have hsz := HB.out.size
      have hln : (xs ++ ys.take k).length ≤ 1048575 := by simp; omega
      go_wp2_with (at_builtin; refine wpList_append_own _ rfl (.tmp 13) (.tmp 15) 22 rfl w0.heap.size 58 i0 (.agg #[.int .i32 0, .int .i32 0]) 2 8 Try.underlying22 hi0 hz0 hz1 hz2 rfl (by decide) _ _ _ rfl ((HO.out.alloc _).alloc _) ⟨wr.heap.size + 1, 0, none⟩ 1 1 [.int .i32 lo, .int .i32 hi] rfl rfl (two_new_at _ _ _ _ _ (by simp)) (two_one _ _ _) (by unfold maxLen; omega) (by omega) (by simp; omega) ?_; intro v1 w1 hown1 hgrow1 hnil1)
      have HO1 : Hid (w1.ownsRow w0.heap.size 58 2 v1 (xs ++ ys.take (k + 1)).length (flat .i32 (xs ++ ys.take (k + 1)))) := by rw [take_snoc HX.out, ← List.append_assoc]; exact own_push hown1
      have HB1 : Hid (Below w0.heap.size w0 w1) := below_push ((HB.out.alloc hsz _).alloc (by simp; omega) _) ((HO.out.alloc _).alloc _) hgrow1 (by simp; omega)
      clear hown1 hgrow1 hnil1
      go_wp2_with fail
      go_roundw
      case rel => exact ⟨k + 1, hlt, by go_num, HO1, HB1⟩
      case measure => simp [intOf]; omega
    · go_wp2_with fail
      go_ret
      rw [List.take_of_length_le (by omega)] at HO
      exact ⟨retOwn_mk HO.out, HB.out⟩

/-! ### cloneRanges -/
theorem rowIs_of_own {w : World} {base : Nat} {e : TypeId} {size g n : Nat} {xs : List Value} (h : w.ownsRow base e size (.slice (some ⟨g, 0, none⟩) n n) n xs) :
    ∃ f, w.rowIs g e (n * size) f := by
  obtain ⟨hl, ⟨hv, _⟩ | ⟨g', cap, cur, hv, hb, hh, h1, h2, h3, h4⟩⟩ := h
  · cases hv
  · simp only [Value.slice.injEq, Option.some.injEq, Addr.mk.injEq] at hv
    obtain ⟨⟨rfl, _⟩, _, rfl⟩ := hv
    exact ⟨fun i => cur.getD i undef, cur, hh, h3, fun i hi => by simp [Array.getD, show i < cur.size by omega]⟩

/-- cells 0 .. 2k of the row hold the first k pairs -/
def Filled (k : IntKind) (xs : List (Int × Int)) (n : Nat) (f : Nat → Value) : Prop := ∀ i, i < n → f (i * 2) = .int k (xs.getD i (0, 0)).1 ∧ f (i * 2 + 1) = .int k (xs.getD i (0, 0)).2
theorem filled_step {k : IntKind} {xs : List (Int × Int)} {n : Nat} {f : Nat → Value} {lo hi : Int} (h : Filled k xs n f) (hx : xs.drop n = (lo, hi) :: xs.drop (n + 1)) :
    Filled k xs (n + 1) (fun j => if j = n * 2 + 1 then .int k hi else if j = n * 2 then .int k lo else f j) := by
  intro i hi'
  have hn : n < xs.length := by
    rcases Nat.lt_or_ge n xs.length with h' | h'
    · exact h'
    · rw [List.drop_of_length_le h'] at hx; cases hx
  by_cases e : i = n
  · subst e
    have : xs.getD i (0, 0) = (lo, hi) := by
      rw [List.drop_eq_getElem_cons hn] at hx
      simp only [List.cons.injEq] at hx
      rw [List.getD_eq_getElem?_getD, List.getElem?_eq_getElem hn, hx.1]; rfl
    rw [this]
    exact ⟨by dsimp only; rw [if_neg (by omega), if_pos rfl], by dsimp only; rw [if_pos rfl]⟩
  · have := h i (by omega)
    exact ⟨by dsimp only; rw [if_neg (by omega), if_neg (by omega)]; exact this.1, by dsimp only; rw [if_neg (by omega), if_neg (by omega)]; exact this.2⟩
theorem pairRow_filled {k : IntKind} {w : World} {B : Nat} {e : TypeId} {xs : List (Int × Int)} {f : Nat → Value} (h : w.rowIs B e (xs.length * 2) f) (hf : Filled k xs xs.length f) : PairRow k w (some ⟨B, 0, none⟩) xs := by
  refine fun _ => ⟨B, 0, rfl, fun i hi => ?_⟩
  rw [Nat.zero_add]
  have := hf i hi
  exact ⟨by rw [h.cell (by omega), this.1], by rw [h.cell (by omega), this.2]⟩

theorem eqNil22 (a : Option Addr) (n c : Nat) (w : World) : (binOp .eql 22 (.slice a n c) (.slice none 0 0)).run Try.prog w = .ok (.bool a.isNone) w := Lib.run_eql_slice_nil w 22 58 a n c 0 0 Try.underlying22
theorem eqNil27 (a : Option Addr) (n c : Nat) (w : World) : (binOp .eql 27 (.slice a n c) (.slice none 0 0)).run Try.prog w = .ok (.bool a.isNone) w := Lib.run_eql_slice_nil w 27 60 a n c 0 0 Try.underlying27

set_option maxHeartbeats 1000000 in
theorem clone_some (a : Option Addr) (ha : a.isNone = false) (cap : Nat) (xs : List (Int × Int)) (w : World) (hm : xs.length ≤ 1048576) (hr : Hid (PairRow .i32 w a xs)) :
    Calls Try.prog 9 #[.slice a xs.length cap] w fun e w' => RetPairs .i32 xs e w' ∧ Below w.heap.size w w' := by
  obtain ⟨i0, hi0, hz0, hz1, hz2⟩ := info_parts Try.info58
  have hnl := eqNil22
  go_enter Try.func9, Try.ntmps9
  go_wp2_with (at_make; refine wpList_make_full _ rfl _ _ 22 rfl w.heap.size 58 i0 (.agg #[.int .i32 0, .int .i32 0]) 2 Try.underlying22 hi0 hz0 hz1 .i64 .i64 (xs.length : Int) (xs.length : Int) xs.length rfl rfl rfl rfl (by rw [hz2]; omega) (by unfold maxLen; omega) (Nat.le_refl _) ?_; intro w1 hown hgrow)
  obtain ⟨f0, hrow⟩ := rowIs_of_own hown
  have HB1 : Hid (Below w.heap.size w w1) := (Below.refl _ _).grown hgrow (Nat.le_refl _) (by simp)
  have HR1 : Hid (w1.rowIs w.heap.size 58 (xs.length * 2) f0) := hrow
  clear hown hgrow hrow
  go_loopw [4] (fun i wr => ∃ (k : Nat) (f : Nat → Value), k ≤ xs.length ∧ i = .int .i64 k ∧ Hid (wr.rowIs w.heap.size 58 (xs.length * 2) f) ∧ Hid (Filled .i32 xs k f) ∧ Hid (Below w.heap.size w wr)) (fun i _ => xs.length - (intOf i).toNat)
  case atStart => exact ⟨0, f0, Nat.zero_le _, rfl, HR1, fun i hi => by omega, HB1⟩
  case round =>
    obtain ⟨k, f, hk, rfl, HR, HF, HB⟩ := hrel
    clear HR1 HB1
    by_cases hlt : k < xs.length
    · obtain ⟨b, off, lo, hi, rfl, c1, c2, hbl, HX, HM⟩ := hr.out.get HB.out hlt
      have d1 := HR.out.cell (i := k * 2) (by omega)
      have d2 := HR.out.cell (i := k * 2 + 1) (by omega)
      have e1 := HR.out.frozen (k * 2)
      have e2 := HR.out.frozen (k * 2 + 1)
      have HR2 : Hid (((wr.setCell ⟨w.heap.size, k * 2, none⟩ (.int .i32 lo)).setCell ⟨w.heap.size, k * 2 + 1, none⟩ (.int .i32 hi)).rowIs w.heap.size 58 (xs.length * 2) _) := (HR.out.set (k * 2) (.int .i32 lo)).set (k * 2 + 1) (.int .i32 hi)
      have HF2 := filled_step HF.out HX.out
      have HF3 : Hid (Filled .i32 xs (k + 1) (fun j => if j = k * 2 + 1 then .int .i32 hi else if j = k * 2 then .int .i32 lo else f j)) := HF2
      have HB2 : Hid (Below w.heap.size w ((wr.setCell ⟨w.heap.size, k * 2, none⟩ (.int .i32 lo)).setCell ⟨w.heap.size, k * 2 + 1, none⟩ (.int .i32 hi))) := (HB.out.setCell (Nat.le_refl _) _).setCell (Nat.le_refl _) _
      clear HF2
      go_wp2_with fail
      go_roundw
      case rel => exact ⟨k + 1, _, hlt, by go_num, HR2, HF3, HB2⟩
      case measure => simp [intOf]; omega
    · go_wp2_with fail
      go_ret
      have : k = xs.length := by omega
      subst this
      exact ⟨⟨_, _, rfl, pairRow_filled HR.out HF.out, Nat.le_refl _, by simp⟩, HB.out⟩
theorem clone_any (a : Option Addr) (cap : Nat) (xs : List (Int × Int)) (w : World) (hm : xs.length ≤ 1048576) (hr : Hid (PairRow .i32 w a xs)) (hn : a = none → xs = [] ∧ cap = 0) :
    Calls Try.prog 9 #[.slice a xs.length cap] w fun e w' => RetPairs .i32 xs e w' ∧ Below w.heap.size w w' := by
  cases a with
  | some x => exact clone_some (some x) rfl cap xs w hm hr
  | none =>
    obtain ⟨rfl, rfl⟩ := hn rfl
    have hnl := eqNil22
    go_enter Try.func9, Try.ntmps9
    go_wp2_with fail
    go_ret
    exact ⟨⟨none, 0, rfl, fun h => by simp at h, by simp, by simp⟩, Below.refl _ _⟩
end Go.Proofs.Qxb6605195a
