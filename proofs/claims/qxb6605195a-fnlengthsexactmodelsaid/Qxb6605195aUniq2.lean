import Derived.Test.Qxb6605195aUniq
import Derived.Sort.OwnSortedInts
set_option maxRecDepth 100000
namespace Go.Proofs.Qxb6605195a
open Go.ChangeShapes Go.WideShapes Go.ChangeAt Go.RowKit Plain
open Go.Shelf Go.Lib Go.Sort
set_option linter.unusedVariables false

theorem zero3 (w : World) : (zeroValue 3).run Try.prog w = .ok (.int .i64 0) w := Try.laysCompact.v3 w
def sortL (zs : List Int) : List Int := zs.mergeSort fun x y => decide (x ≤ y)
theorem sortL_len (zs : List Int) : (sortL zs).length = zs.length := List.length_mergeSort zs
theorem uniq_eq (zs : List Int) : uniq zs = compactUpTo (sortL zs).toArray (sortL zs).toArray.size := rfl

theorem compactUpTo_le (d : Array Int) (m : Nat) : (compactUpTo d m).length ≤ m := by
  unfold compactUpTo
  rw [List.length_map]
  exact Nat.le_trans (List.length_filter_le _ _) (by simp)
/-- slices.Sort at a row of the call's own -/
theorem sortI_any (B g cap : Nat) (zs : List Int) (w : World) (hm : zs.length < 4611686018427387904) (ho : Hid (w.ownsRow B 3 1 (.slice (some ⟨g, 0, none⟩) zs.length cap) zs.length (zs.map (Value.int .i64)))) (hB : B ≤ w.heap.size) :
    Calls Try.prog 51 #[.slice (some ⟨g, 0, none⟩) zs.length cap] w fun e w' => e = .returned (.tuple #[]) ∧ Hid (w'.ownsRow B 3 1 (.slice (some ⟨g, 0, none⟩) (sortL zs).length cap) (sortL zs).length ((sortL zs).map (Value.int .i64))) ∧ Hid (Below B w w') := by
  have ho' := ho.out
  obtain ⟨hl, ⟨h0, _⟩ | ⟨g', cap', cur, h0, hb, hh, h1, h2, h3, h4⟩⟩ := ho.out
  · cases h0
  cases h0
  rw [Nat.mul_one] at h4
  have hc := Any.slices_Sort_int Try.laysSort g 0 cap zs w (holds_of_blockI hh h4) (Array.getElem?_eq_some_iff.1 hh).1 hm
  refine Calls.mono hc ?_
  rintro e w' ⟨rfl, n, os, rfl⟩
  refine ⟨rfl, ?_, ?_⟩
  · have := ownsRow_sortedI (n := n) (os := os) (ts := sortL zs) (sortL_len zs) hb hh h1 h2 h3
    rw [← sortL_len zs] at this
    exact this
  · exact below_push (Below.refl B w) ho' (grownBy_sortedI _) hB
theorem compactI_any (B g cap : Nat) (ys : List Int) (w : World) (hm : ys.length ≤ 9223372036854775807) (ho : Hid (w.ownsRow B 3 1 (.slice (some ⟨g, 0, none⟩) ys.length cap) ys.length (ys.map (Value.int .i64)))) (hB : B ≤ w.heap.size) :
    Calls Try.prog 52 #[.slice (some ⟨g, 0, none⟩) ys.length cap] w fun e w' => e = .returned (.slice (some ⟨g, 0, none⟩) (compactUpTo ys.toArray ys.toArray.size).length cap) ∧ Hid (IntRow .i64 w' (some ⟨g, 0, none⟩) (compactUpTo ys.toArray ys.toArray.size)) ∧ Hid (Below B w w') := by
  have ho' := ho.out
  obtain ⟨hl, ⟨h0, _⟩ | ⟨g', cap', cur, h0, hb, hh, h1, h2, h3, h4⟩⟩ := ho.out
  · cases h0
  cases h0
  rw [Nat.mul_one] at h4
  have hc := AnyE.slices_Compact Try.laysCompact (Value.int .i64) (fun _ => rfl) (EqlAt.intD _ _ .i64) (NeqAt.intD _ _ .i64) 0 zero3 g 0 cap ys.toArray w (holds_of_blockI hh h4) (by simpa using hm) (by simpa using h1)
  have hc' : Calls Try.prog 52 #[.slice (some ⟨g, 0, none⟩) ys.length cap] w _ := hc
  refine hc'.mono ?_
  rintro e w' ⟨rfl, q, rfl⟩
  obtain ⟨L, hL⟩ : ∃ L, L = compactUpTo ys.toArray ys.toArray.size := ⟨_, rfl⟩
  rw [← hL]
  have hlen : L.length ≤ ys.length := by
    rw [hL]; simpa using compactUpTo_le ys.toArray ys.toArray.size
  obtain ⟨ts, hts⟩ : ∃ ts, ts = L ++ List.replicate (ys.toArray.size - L.length) (0 : Int) := ⟨_, rfl⟩
  rw [← hts]
  have htl : ts.length = ys.length := by rw [hts]; simp; omega
  have hg := grow_empty (putRow (Value.int .i64) (Sort.ahead w q) g 0 ts.toArray)
  rw [← hg]
  refine ⟨rfl, ?_, ?_⟩
  · have := ownsRow_sortedI (n := q) (os := #[]) (ts := ts) htl hb hh h1 h2 h3
    intro h0
    refine ⟨g, 0, rfl, fun i hi => ?_⟩
    have h5 := this.cells (g := g) rfl i (.int .i64 (L.getD i 0)) (by
      rw [List.getElem?_map, hts, List.getElem?_append_left hi, List.getD_eq_getElem?_getD, List.getElem?_eq_getElem hi]; rfl)
    rw [show (⟨g, 0, none⟩ : Addr).add i = ⟨g, 0 + i, none⟩ from by simp only [Addr.add]; split <;> simp_all] at h5
    exact h5
  · exact below_push (Below.refl B w) ho' (grownBy_sortedI _) hB
/-- a list of ints, and whether it is the whole answer -/
def RetInts (B : Nat) (L : List Int) (ok : Bool) (e : Ending) (w' : World) : Prop := ∃ a c, e = .returned (.tuple #[.slice a L.length c, .bool ok]) ∧ Hid (IntRow .i64 w' a L) ∧ Hid (a = none → L = [] ∧ c = 0) ∧ Hid (∀ x, a = some x → B ≤ x.block)
theorem uniq_nil : uniq [] = [] := by
  have := (uniq_spec []).2.2
  exact List.length_eq_zero_iff.1 (by simpa using this)
set_option maxHeartbeats 1000000 in
theorem compactI_nil (w : World) : Calls Try.prog 52 #[.slice none 0 0] w fun e w' => e = .returned (.slice none 0 0) ∧ Hid (Below w.heap.size w w') := by
  go_enter Try.func52, Try.ntmps52
  go_wp2_with fail
  go_ret
  exact ⟨rfl, Below.refl _ _⟩
set_option maxHeartbeats 1000000 in
theorem unique_nil (w : World) : Calls Try.prog 46 #[.slice none 0 0] w fun e w' => e = .returned (.tuple #[.slice none 0 0, .bool true]) ∧ Hid (Below w.heap.size w w') := by
  have hs : Calls Try.prog 51 #[.slice none 0 0] w fun e w' => e = .returned (.tuple #[]) ∧ w' = w := Any.slices_Sort_int_none Try.laysSort none 0 w
  go_enter Try.func46, Try.ntmps46
  go_wp2_with fail
  refine hs.mono ?_
  rintro e w1 ⟨rfl, rfl⟩
  go_wp2_with fail
  refine (compactI_nil w1).mono ?_
  rintro e w2 ⟨rfl, B2⟩
  go_wp2_with fail
  go_ret2
  exact ⟨rfl, B2⟩
set_option maxHeartbeats 1000000 in
theorem unique_some (B g cap : Nat) (zs : List Int) (w : World) (hm : zs.length < 4611686018427387904) (ho : Hid (w.ownsRow B 3 1 (.slice (some ⟨g, 0, none⟩) zs.length cap) zs.length (zs.map (Value.int .i64)))) (hB : B ≤ w.heap.size) :
    Calls Try.prog 46 #[.slice (some ⟨g, 0, none⟩) zs.length cap] w fun e w' => RetInts B (uniq zs) (decide ((uniq zs).length ≤ 256)) e w' ∧ Hid (Below B w w') := by
  have hl : (uniq zs).length ≤ zs.length := (uniq_spec zs).2.2
  have hbg : B ≤ g := (ho.out.lt g rfl).1
  obtain ⟨L, hL⟩ : ∃ L, L = uniq zs := ⟨_, rfl⟩
  rw [← hL] at hl ⊢
  have HL := hid hL
  clear hL
  have hsl := hid (sortL_len zs)
  go_enter Try.func46, Try.ntmps46
  go_wp2_with fail
  refine (sortI_any B g cap zs w hm ho hB).mono ?_
  rintro e w1 ⟨rfl, O1, B1⟩
  have hB1 : B ≤ w1.heap.size := Nat.le_trans hB B1.out.size
  have hc := compactI_any B g cap (sortL zs) w1 (by rw [hsl.out]; omega) O1 hB1
  rw [← uniq_eq, ← HL.out, hsl.out] at hc
  clear O1
  go_wp2_with fail
  refine hc.mono ?_
  rintro e w2 ⟨rfl, R2, B2⟩
  clear hc
  have B3 := hid (B1.out.trans B2.out)
  have hlt : ((L.length : Nat) : Int) ≤ 4611686018427387904 := by omega
  by_cases h256 : L.length ≤ 256
  · go_wp2_with fail
    go_ret2
    exact ⟨⟨_, cap, by simp [h256]; omega, R2, fun h => (by cases h), fun x h => (by cases h; exact hbg)⟩, B3⟩
  · go_wp2_with fail
    go_ret2
    exact ⟨⟨_, cap, by simp [h256]; omega, R2, fun h => (by cases h), fun x h => (by cases h; exact hbg)⟩, B3⟩
theorem unique_any (B : Nat) (v : Value) (zs : List Int) (w : World) (hm : zs.length < 4611686018427387904) (ho : Hid (w.ownsRow B 3 1 v zs.length (zs.map (Value.int .i64)))) (hB : B ≤ w.heap.size) :
    Calls Try.prog 46 #[v] w fun e w' => RetInts B (uniq zs) (decide ((uniq zs).length ≤ 256)) e w' ∧ Hid (Below B w w') := by
  have ho' := ho.out
  obtain ⟨hl, ⟨h0, h1⟩ | ⟨g', cap', cur, h0, _⟩⟩ := ho.out
  · subst h0
    have hz := List.length_eq_zero_iff.1 h1
    subst hz
    rw [uniq_nil]
    refine (unique_nil w).mono ?_
    rintro e w' ⟨rfl, B1⟩
    exact ⟨⟨none, 0, rfl, fun h => absurd h (by simp), fun _ => ⟨rfl, rfl⟩, fun x h => (by cases h)⟩, B1.out.mono hB⟩
  · subst h0
    exact unique_some B g' cap' zs w hm ho hB
end Go.Proofs.Qxb6605195a
