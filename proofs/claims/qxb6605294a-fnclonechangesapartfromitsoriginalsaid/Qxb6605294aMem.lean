import Derived.Test.Qxb6605294aRows
import Derived.WalkKit
import Derived.ProofKit
import Derived.OpenShut
import Derived.WalkSpells
import Derived.WalkLawsBesides
import Derived.Deep.QuietTactic
import Derived.BigQuiet
import Derived.Deep.RegionWith
import Derived.Deep.Cut
import Derived.Deep.CutRange
import Derived.Deep.OwnRows
import Derived.Maps.AppendAt
set_option maxRecDepth 100000
namespace Go.Proofs.Qxb6605294a
open Go.ChangeShapes Go.WideShapes Go.ChangeAt Go.RowKit
set_option linter.unusedVariables false

theorem hid {p : Prop} (h : p) : Hid p := h
theorem cell_lt' {w : World} {a : Addr} {v : Value} (h : w.cell? a = some v) : a.block < w.heap.size := by
  rcases Nat.lt_or_ge a.block w.heap.size with h' | h'
  · exact h'
  · simp [World.cell?, Array.getElem?_eq_none h'] at h
theorem below_next {w w1 w2 : World} (h : Below w.heap.size w w1) (h' : Below w1.heap.size w1 w2) : Below w.heap.size w w2 := h.trans (h'.mono h.size)
theorem ret_bool {a b : Bool} (h : a = b) : Ending.returned (.bool a) = .returned (.bool b) := by rw [h]

/-! ### a slice of one-cell values that is only read -/
def Row {α : Type} (enc : α → Value) (d : α) (w : World) (a : Option Addr) (xs : List α) : Prop :=
  0 < xs.length → ∃ b off, a = some ⟨b, off, none⟩ ∧ ∀ i, i < xs.length → w.cell? ⟨b, off + i, none⟩ = some (enc (xs.getD i d))
section
variable {α : Type} {enc : α → Value} {d : α}
theorem Row.below {w w' : World} {a : Option Addr} {xs : List α} (h : Row enc d w a xs) (hb : Below w.heap.size w w') : Row enc d w' a xs := by
  intro h0
  obtain ⟨b, off, e, hc⟩ := h h0
  refine ⟨b, off, e, fun i hi => ?_⟩
  have h1 := hc i hi
  rw [hb.cell (cell_lt' h1)]; exact h1
/-- the cells of the row's own block stay -/
theorem Row.keep {w w' : World} {a : Option Addr} {xs : List α} (h : Row enc d w a xs) (hk : ∀ x p : Addr, a = some x → p.block = x.block → w'.cell? p = w.cell? p) : Row enc d w' a xs := by
  intro h0
  obtain ⟨b, off, e, hc⟩ := h h0
  refine ⟨b, off, e, fun i hi => ?_⟩
  rw [hk _ ⟨b, off + i, none⟩ e rfl]; exact hc i hi
theorem Row.get {w wr : World} {a : Option Addr} {xs : List α} (h : Row enc d w a xs) (hb : Below w.heap.size w wr) {i : Nat} (hi : i < xs.length) :
    ∃ b off z, a = some ⟨b, off, none⟩ ∧ wr.cell? ⟨b, off + i, none⟩ = some (enc z) ∧ b < wr.heap.size ∧ b < w.heap.size ∧ Hid (xs.drop i = z :: xs.drop (i + 1)) ∧ Hid (xs.getD i d = z) := by
  obtain ⟨b, off, e, hc⟩ := h (by omega)
  have h1 := hc i hi
  have hbl := cell_lt' h1
  have he : xs.getD i d = xs[i] := by rw [List.getD_eq_getElem?_getD, List.getElem?_eq_getElem hi]; rfl
  refine ⟨b, off, xs[i], e, ?_, Nat.lt_of_lt_of_le hbl hb.size, hbl, ?_, he⟩
  · rw [hb.cell hbl, h1, he]
  · exact List.drop_eq_getElem_cons hi
theorem row_nil (w : World) (a : Option Addr) : Row enc d w a [] := fun h => absurd h (by simp)
/-- a row, handed back, of a block that is new -/
def RetRow (enc : α → Value) (d : α) (B : Nat) (xs : List α) (e : Ending) (w' : World) : Prop := ∃ a c, e = .returned (.slice a xs.length c) ∧ xs.length ≤ c ∧ Hid (Row enc d w' a xs) ∧ Hid (a = none → xs = [] ∧ c = 0) ∧ Hid (∀ x, a = some x → B ≤ x.block ∧ x.block < w'.heap.size)
def Filled (enc : α → Value) (d : α) (xs : List α) (n : Nat) (f : Nat → Value) : Prop := ∀ i, i < n → f i = enc (xs.getD i d)
theorem filled_step {xs : List α} {n : Nat} {f : Nat → Value} {z : α} (h : Filled enc d xs n f) (hz : xs.getD n d = z) : Filled enc d xs (n + 1) (fun j => if j = n then enc z else f j) := by
  intro i hi
  by_cases e : i = n
  · subst e; simp only [if_true]; rw [hz]
  · simp only [if_neg e]; exact h i (by omega)
theorem row_filled {w : World} {B : Nat} {e : TypeId} {xs : List α} {f : Nat → Value} (h : w.rowIs B e xs.length f) (hf : Filled enc d xs xs.length f) : Row enc d w (some ⟨B, 0, none⟩) xs := by
  refine fun _ => ⟨B, 0, rfl, fun i hi => ?_⟩
  rw [Nat.zero_add, h.cell hi, hf i hi]
end
/-- what make lays: the zero value everywhere -/
theorem rowIs_zero {w : World} {base : Nat} {e : TypeId} {g n : Nat} {z : Value} (hz : z.cells = #[z]) (h : w.ownsRow base e 1 (.slice (some ⟨g, 0, none⟩) n n) n (madeCells z.cells (n * 1)).toList) : w.rowIs g e n (fun _ => z) := by
  obtain ⟨hl, ⟨hv, _⟩ | ⟨g', cap, cur, hv, hb, hh, h1, h2, h3, h4⟩⟩ := h
  · cases hv
  · simp only [Value.slice.injEq, Option.some.injEq, Addr.mk.injEq] at hv
    obtain ⟨⟨rfl, _⟩, _, rfl⟩ := hv
    rw [Nat.mul_one] at h3 h4
    rw [hz] at h4
    refine ⟨cur, hh, h3, fun i hi => ?_⟩
    have h5 : cur.toList = (madeCells #[z] n).toList := by rw [← h4, List.take_of_length_le (by simp; omega)]
    have h6 : cur[i]? = (madeCells #[z] n)[i]? := by rw [← Array.getElem?_toList, ← Array.getElem?_toList, h5]
    rw [h6]; simp [madeCells, hi, Nat.mod_one]
theorem Try.info2 : (Try.prog.info? 2).map (fun i => (i.zero, i.size, i.bytes)) = some (some (.int .i64 0), 1, 8) := by kernel_rfl
theorem Try.info3 : (Try.prog.info? 3).map (fun i => (i.zero, i.size, i.bytes)) = some (some (.int .i64 0), 1, 8) := by kernel_rfl
theorem Try.info4 : (Try.prog.info? 4).map (fun i => (i.zero, i.size, i.bytes)) = some (some (.bool false), 1, 1) := by kernel_rfl
theorem Try.info22 : (Try.prog.info? 22).map (fun i => (i.zero, i.size, i.bytes)) = some (some (.slice none 0 0), 1, 24) := by kernel_rfl
theorem Try.info46 : (Try.prog.info? 46).map (fun i => (i.zero, i.size, i.bytes)) = some (some (.slice none 0 0), 1, 24) := by kernel_rfl

theorem eqNil22 (a : Option Addr) (n c : Nat) (w : World) : (binOp .eql 22 (.slice a n c) (.slice none 0 0)).run Try.prog w = .ok (.bool a.isNone) w := Lib.run_eql_slice_nil w 22 3 a n c 0 0 Try.underlying22
set_option maxHeartbeats 1000000 in
theorem copyInts_some (a : Option Addr) (ha : a.isNone = false) (cap : Nat) (xs : List Int) (w : World) (hm : xs.length ≤ 100000000) (hr : Hid (Row (Value.int .i64) 0 w a xs)) :
    Calls Try.prog 11 #[.slice a xs.length cap] w fun e w' => RetRow (Value.int .i64) 0 w.heap.size xs e w' ∧ Hid (Below w.heap.size w w') := by
  obtain ⟨i0, hi0, hz0, hz1, hz2⟩ := info_parts Try.info3
  have hnl := eqNil22
  go_enter Try.func11, Try.ntmps11
  go_wp2_with (at_make; refine wpList_make_full _ rfl _ _ 22 rfl w.heap.size 3 i0 (.int .i64 0) 1 Try.underlying22 hi0 hz0 hz1 .i64 .i64 (xs.length : Int) (xs.length : Int) xs.length rfl rfl rfl rfl (by rw [hz2]; omega) (by unfold maxLen; omega) (Nat.le_refl _) ?_; intro w1 hown hgrow)
  have HB1 : Hid (Below w.heap.size w w1) := (Below.refl _ _).grown hgrow (Nat.le_refl _) (by simp)
  have HR1 := hid (rowIs_zero rfl hown)
  clear hown hgrow
  go_loopw [4] (fun i wr => ∃ (k : Nat) (f : Nat → Value), k ≤ xs.length ∧ i = .int .i64 k ∧ Hid (wr.rowIs w.heap.size 3 xs.length f) ∧ Hid (Filled (Value.int .i64) 0 xs k f) ∧ Hid (Below w.heap.size w wr)) (fun i _ => xs.length - (intOf i).toNat)
  case atStart => exact ⟨0, _, Nat.zero_le _, rfl, HR1, fun i hi => by omega, HB1⟩
  case round =>
    obtain ⟨k, f, hk, rfl, HR, HF, HB⟩ := hrel
    clear HR1 HB1
    by_cases hlt : k < xs.length
    · obtain ⟨b, off, z, rfl, c1, _, hbl, _, HX⟩ := hr.out.get HB.out hlt
      have d1 := HR.out.cell (i := k) hlt
      have e1 := HR.out.frozen k
      have HR2 := hid (HR.out.set k ((Value.int .i64) z))
      have HF2 := hid (filled_step HF.out HX.out)
      have HB2 : Hid (Below w.heap.size w (wr.setCell ⟨w.heap.size, k, none⟩ ((Value.int .i64) z))) := HB.out.setCell (Nat.le_refl _) _
      go_wp2_with fail
      go_roundw
      case rel => exact ⟨k + 1, _, hlt, by go_num, HR2, HF2, HB2⟩
      case measure => simp [intOf]; omega
    · have hke := hid (show k = xs.length by omega)
      go_wp2_with fail
      go_ret
      exact ⟨⟨_, _, rfl, Nat.le_refl _, row_filled HR.out (by have := HF.out; rw [hke.out] at this; exact this), fun h => (by cases h), fun x h => (by cases h; exact ⟨Nat.le_refl _, HR.out.lt⟩)⟩, HB⟩
theorem copyInts_any (a : Option Addr) (cap : Nat) (xs : List Int) (w : World) (hm : xs.length ≤ 100000000) (hr : Hid (Row (Value.int .i64) 0 w a xs)) (hn : Hid (a = none → xs = [] ∧ cap = 0)) :
    Calls Try.prog 11 #[.slice a xs.length cap] w fun e w' => RetRow (Value.int .i64) 0 w.heap.size xs e w' ∧ Hid (Below w.heap.size w w') := by
  cases a with
  | some x => exact copyInts_some (some x) rfl cap xs w hm hr
  | none =>
    obtain ⟨rfl, rfl⟩ := hn.out rfl
    have hnl := eqNil22
    go_enter Try.func11, Try.ntmps11
    go_wp2_with fail
    go_ret
    exact ⟨⟨none, 0, rfl, by simp, row_nil _ _, fun _ => ⟨rfl, rfl⟩, fun x h => (by cases h)⟩, Below.refl _ _⟩

theorem eqNil46 (a : Option Addr) (n c : Nat) (w : World) : (binOp .eql 46 (.slice a n c) (.slice none 0 0)).run Try.prog w = .ok (.bool a.isNone) w := Lib.run_eql_slice_nil w 46 2 a n c 0 0 Try.underlying46
set_option maxHeartbeats 1000000 in
theorem copyI64_some (a : Option Addr) (ha : a.isNone = false) (cap : Nat) (xs : List Int) (w : World) (hm : xs.length ≤ 100000000) (hr : Hid (Row (Value.int .i64) 0 w a xs)) :
    Calls Try.prog 33 #[.slice a xs.length cap] w fun e w' => RetRow (Value.int .i64) 0 w.heap.size xs e w' ∧ Hid (Below w.heap.size w w') := by
  obtain ⟨i0, hi0, hz0, hz1, hz2⟩ := info_parts Try.info2
  have hnl := eqNil46
  go_enter Try.func33, Try.ntmps33
  go_wp2_with (at_make; refine wpList_make_full _ rfl _ _ 46 rfl w.heap.size 2 i0 (.int .i64 0) 1 Try.underlying46 hi0 hz0 hz1 .i64 .i64 (xs.length : Int) (xs.length : Int) xs.length rfl rfl rfl rfl (by rw [hz2]; omega) (by unfold maxLen; omega) (Nat.le_refl _) ?_; intro w1 hown hgrow)
  have HB1 : Hid (Below w.heap.size w w1) := (Below.refl _ _).grown hgrow (Nat.le_refl _) (by simp)
  have HR1 := hid (rowIs_zero rfl hown)
  clear hown hgrow
  go_loopw [4] (fun i wr => ∃ (k : Nat) (f : Nat → Value), k ≤ xs.length ∧ i = .int .i64 k ∧ Hid (wr.rowIs w.heap.size 2 xs.length f) ∧ Hid (Filled (Value.int .i64) 0 xs k f) ∧ Hid (Below w.heap.size w wr)) (fun i _ => xs.length - (intOf i).toNat)
  case atStart => exact ⟨0, _, Nat.zero_le _, rfl, HR1, fun i hi => by omega, HB1⟩
  case round =>
    obtain ⟨k, f, hk, rfl, HR, HF, HB⟩ := hrel
    clear HR1 HB1
    by_cases hlt : k < xs.length
    · obtain ⟨b, off, z, rfl, c1, _, hbl, _, HX⟩ := hr.out.get HB.out hlt
      have d1 := HR.out.cell (i := k) hlt
      have e1 := HR.out.frozen k
      have HR2 := hid (HR.out.set k ((Value.int .i64) z))
      have HF2 := hid (filled_step HF.out HX.out)
      have HB2 : Hid (Below w.heap.size w (wr.setCell ⟨w.heap.size, k, none⟩ ((Value.int .i64) z))) := HB.out.setCell (Nat.le_refl _) _
      go_wp2_with fail
      go_roundw
      case rel => exact ⟨k + 1, _, hlt, by go_num, HR2, HF2, HB2⟩
      case measure => simp [intOf]; omega
    · have hke := hid (show k = xs.length by omega)
      go_wp2_with fail
      go_ret
      exact ⟨⟨_, _, rfl, Nat.le_refl _, row_filled HR.out (by have := HF.out; rw [hke.out] at this; exact this), fun h => (by cases h), fun x h => (by cases h; exact ⟨Nat.le_refl _, HR.out.lt⟩)⟩, HB⟩
theorem copyI64_any (a : Option Addr) (cap : Nat) (xs : List Int) (w : World) (hm : xs.length ≤ 100000000) (hr : Hid (Row (Value.int .i64) 0 w a xs)) (hn : Hid (a = none → xs = [] ∧ cap = 0)) :
    Calls Try.prog 33 #[.slice a xs.length cap] w fun e w' => RetRow (Value.int .i64) 0 w.heap.size xs e w' ∧ Hid (Below w.heap.size w w') := by
  cases a with
  | some x => exact copyI64_some (some x) rfl cap xs w hm hr
  | none =>
    obtain ⟨rfl, rfl⟩ := hn.out rfl
    have hnl := eqNil46
    go_enter Try.func33, Try.ntmps33
    go_wp2_with fail
    go_ret
    exact ⟨⟨none, 0, rfl, by simp, row_nil _ _, fun _ => ⟨rfl, rfl⟩, fun x h => (by cases h)⟩, Below.refl _ _⟩

theorem eqNil37 (a : Option Addr) (n c : Nat) (w : World) : (binOp .eql 37 (.slice a n c) (.slice none 0 0)).run Try.prog w = .ok (.bool a.isNone) w := Lib.run_eql_slice_nil w 37 4 a n c 0 0 Try.underlying37
set_option maxHeartbeats 1000000 in
theorem copyBools_some (a : Option Addr) (ha : a.isNone = false) (cap : Nat) (xs : List Bool) (w : World) (hm : xs.length ≤ 100000000) (hr : Hid (Row Value.bool false w a xs)) :
    Calls Try.prog 32 #[.slice a xs.length cap] w fun e w' => RetRow Value.bool false w.heap.size xs e w' ∧ Hid (Below w.heap.size w w') := by
  obtain ⟨i0, hi0, hz0, hz1, hz2⟩ := info_parts Try.info4
  have hnl := eqNil37
  go_enter Try.func32, Try.ntmps32
  go_wp2_with (at_make; refine wpList_make_full _ rfl _ _ 37 rfl w.heap.size 4 i0 (.bool false) 1 Try.underlying37 hi0 hz0 hz1 .i64 .i64 (xs.length : Int) (xs.length : Int) xs.length rfl rfl rfl rfl (by rw [hz2]; omega) (by unfold maxLen; omega) (Nat.le_refl _) ?_; intro w1 hown hgrow)
  have HB1 : Hid (Below w.heap.size w w1) := (Below.refl _ _).grown hgrow (Nat.le_refl _) (by simp)
  have HR1 := hid (rowIs_zero rfl hown)
  clear hown hgrow
  go_loopw [4] (fun i wr => ∃ (k : Nat) (f : Nat → Value), k ≤ xs.length ∧ i = .int .i64 k ∧ Hid (wr.rowIs w.heap.size 4 xs.length f) ∧ Hid (Filled Value.bool false xs k f) ∧ Hid (Below w.heap.size w wr)) (fun i _ => xs.length - (intOf i).toNat)
  case atStart => exact ⟨0, _, Nat.zero_le _, rfl, HR1, fun i hi => by omega, HB1⟩
  case round =>
    obtain ⟨k, f, hk, rfl, HR, HF, HB⟩ := hrel
    clear HR1 HB1
    by_cases hlt : k < xs.length
    · obtain ⟨b, off, z, rfl, c1, _, hbl, _, HX⟩ := hr.out.get HB.out hlt
      have d1 := HR.out.cell (i := k) hlt
      have e1 := HR.out.frozen k
      have HR2 := hid (HR.out.set k (Value.bool z))
      have HF2 := hid (filled_step HF.out HX.out)
      have HB2 : Hid (Below w.heap.size w (wr.setCell ⟨w.heap.size, k, none⟩ (Value.bool z))) := HB.out.setCell (Nat.le_refl _) _
      go_wp2_with fail
      go_roundw
      case rel => exact ⟨k + 1, _, hlt, by go_num, HR2, HF2, HB2⟩
      case measure => simp [intOf]; omega
    · have hke := hid (show k = xs.length by omega)
      go_wp2_with fail
      go_ret
      exact ⟨⟨_, _, rfl, Nat.le_refl _, row_filled HR.out (by have := HF.out; rw [hke.out] at this; exact this), fun h => (by cases h), fun x h => (by cases h; exact ⟨Nat.le_refl _, HR.out.lt⟩)⟩, HB⟩
theorem copyBools_any (a : Option Addr) (cap : Nat) (xs : List Bool) (w : World) (hm : xs.length ≤ 100000000) (hr : Hid (Row Value.bool false w a xs)) (hn : Hid (a = none → xs = [] ∧ cap = 0)) :
    Calls Try.prog 32 #[.slice a xs.length cap] w fun e w' => RetRow Value.bool false w.heap.size xs e w' ∧ Hid (Below w.heap.size w w') := by
  cases a with
  | some x => exact copyBools_some (some x) rfl cap xs w hm hr
  | none =>
    obtain ⟨rfl, rfl⟩ := hn.out rfl
    have hnl := eqNil37
    go_enter Try.func32, Try.ntmps32
    go_wp2_with fail
    go_ret
    exact ⟨⟨none, 0, rfl, by simp, row_nil _ _, fun _ => ⟨rfl, rfl⟩, fun x h => (by cases h)⟩, Below.refl _ _⟩
end Go.Proofs.Qxb6605294a
