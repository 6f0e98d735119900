import Derived.Test.Qxb6605294aMem2
import Derived.WideKeyPair
import Derived.Maps.RangeWalk
import Derived.Maps.OwnSet
import Derived.Maps.OwnOps
set_option maxRecDepth 100000
namespace Go.Proofs.Qxb6605294a
open Go.ChangeShapes Go.WideShapes Go.ChangeAt Go.RowKit
open Go.WideMaps (ArrKey)
open Go.Maps (Keyed)
set_option linter.unusedVariables false

/-! ### lists of lists of links (two ints each) -/
def HInner (w : World) (B : Nat) (ps : List (Int × Int)) (v : Value) : Prop := ∃ a c, v = .slice a ps.length c ∧ ps.length ≤ c ∧ PairRow w a ps ∧ (a = none → ps = [] ∧ c = 0) ∧ ∀ x, a = some x → B ≤ x.block ∧ x.block < w.heap.size
theorem HInner.below {w w' : World} {B : Nat} {ps : List (Int × Int)} {v : Value} (h : HInner w B ps v) (hb : Below w.heap.size w w') : HInner w' B ps v := by
  obtain ⟨a, c, e, l, r, n, k⟩ := h
  exact ⟨a, c, e, l, r.below hb, n, fun x hx => ⟨(k x hx).1, Nat.lt_of_lt_of_le (k x hx).2 hb.size⟩⟩
def HRow (w : World) (a : Option Addr) (pss : List (List (Int × Int))) : Prop :=
  0 < pss.length → ∃ (b off : Nat) (V : Nat → Value), a = some ⟨b, off, none⟩ ∧ b < w.heap.size ∧ ∀ i, i < pss.length → w.cell? ⟨b, off + i, none⟩ = some (V i) ∧ HInner w 0 (pss.getD i []) (V i)
theorem HRow.below {w w' : World} {a : Option Addr} {pss : List (List (Int × Int))} (h : HRow w a pss) (hb : Below w.heap.size w w') : HRow w' a pss := by
  intro h0
  obtain ⟨b, off, V, e, hl, hc⟩ := h h0
  exact ⟨b, off, V, e, Nat.lt_of_lt_of_le hl hb.size, fun i hi => ⟨by rw [hb.cell (p := ⟨b, off + i, none⟩) hl]; exact (hc i hi).1, (hc i hi).2.below hb⟩⟩
theorem HRow.get {w wr : World} {a : Option Addr} {pss : List (List (Int × Int))} (h : HRow w a pss) (hb : Below w.heap.size w wr) {i : Nat} (hi : i < pss.length) :
    ∃ b off ai ci ps, a = some ⟨b, off, none⟩ ∧ wr.cell? ⟨b, off + i, none⟩ = some (.slice ai (List.length ps) ci) ∧ b < w.heap.size ∧ Hid (PairRow wr ai ps) ∧ Hid (ai = none → ps = [] ∧ ci = 0) ∧ Hid (pss.getD i [] = ps) ∧ Hid (pss.drop i = ps :: pss.drop (i + 1)) := by
  obtain ⟨b, off, V, e, hl, hc⟩ := h (by omega)
  obtain ⟨h1, ai, ci, hv, _, r, n, _⟩ := hc i hi
  refine ⟨b, off, ai, ci, _, e, ?_, hl, r.below hb, n, rfl, ?_⟩
  · rw [hb.cell (p := ⟨b, off + i, none⟩) hl, h1, hv]
  · rw [List.drop_eq_getElem_cons hi, List.getD_eq_getElem?_getD, List.getElem?_eq_getElem hi]; rfl

/-! ### the facts: a map by [2]int -/
theorem arr73 : ArrKey Try.prog 73 3 2 := ⟨Try.underlying73, by kernel_rfl, by kernel_rfl, by kernel_rfl⟩
theorem keyed73 : Keyed Try.prog 73 := Keyed.of_law arr73.law
def kv (k : Int × Int) : Value := .agg #[.int .i64 k.1, .int .i64 k.2]
def wfK (k : Int × Int) : Prop := (Lit.int .i64 k.1).wf = true ∧ (Lit.int .i64 k.2).wf = true
/-- the key as the specification writes it -/
noncomputable def kl (k : Int × Int) : Lit := (keyOf Try.prog 73 (kv k)).getD (.bool false)
theorem kl_ok {k : Int × Int} (h : wfK k) : keyOf Try.prog 73 (kv k) = some (kl k) := by
  have hl := WideMaps.keyOf_pair arr73 Try.underlying3 ⟨_, rfl⟩ h.1 h.2
  unfold kl kv
  rw [hl]; rfl
end Go.Proofs.Qxb6605294a
