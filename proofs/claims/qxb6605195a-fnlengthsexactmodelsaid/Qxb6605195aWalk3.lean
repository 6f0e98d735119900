import Derived.Test.Qxb6605195aWalk2
import Derived.Maps.AppendAt
namespace Go.Proofs.Qxb6605195a
open Go.ChangeShapes Go.WideShapes Go.ChangeAt Go.RowKit Plain
set_option linter.unusedVariables false
set_option maxRecDepth 100000

/-- a slice of ints that is only read -/
def IntRow (k : IntKind) (w : World) (a : Option Addr) (zs : List Int) : Prop :=
  0 < zs.length → ∃ b off, a = some ⟨b, off, none⟩ ∧ ∀ i, i < zs.length → w.cell? ⟨b, off + i, none⟩ = some (.int k (zs.getD i 0))
theorem IntRow.below {k : IntKind} {w w' : World} {a : Option Addr} {zs : List Int} (h : IntRow k w a zs) (hb : Below w.heap.size w w') : IntRow k w' a zs := by
  intro h0
  obtain ⟨b, off, e, hc⟩ := h h0
  refine ⟨b, off, e, fun i hi => ?_⟩
  have h1 := hc i hi
  rw [hb.cell (cell_lt' h1)]; exact h1
theorem IntRow.get {k : IntKind} {w wr : World} {a : Option Addr} {zs : List Int} (h : IntRow k w a zs) (hb : Below w.heap.size w wr) {i : Nat} (hi : i < zs.length) :
    ∃ b off z, a = some ⟨b, off, none⟩ ∧ wr.cell? ⟨b, off + i, none⟩ = some (.int k z) ∧ b < wr.heap.size ∧ Hid (zs.drop i = z :: zs.drop (i + 1)) ∧ Hid (z ∈ zs) ∧ Hid (zs.getD i 0 = z) := by
  obtain ⟨b, off, e, hc⟩ := h (by omega)
  have h1 := hc i hi
  have hbl := cell_lt' h1
  have he : zs.getD i 0 = zs[i] := by rw [List.getD_eq_getElem?_getD, List.getElem?_eq_getElem hi]; rfl
  refine ⟨b, off, zs[i], e, ?_, Nat.lt_of_lt_of_le hbl hb.size, ?_, ?_, he⟩
  · rw [hb.cell hbl, h1, he]
  · exact List.drop_eq_getElem_cons hi
  · exact List.getElem_mem hi
theorem intRow_own {k : IntKind} {w : World} {base : Nat} {e : TypeId} {v : Value} {zs : List Int} (h : w.ownsRow base e 1 v zs.length (zs.map (Value.int k))) :
    ∃ a cap, v = .slice a zs.length cap ∧ IntRow k w a zs := by
  obtain ⟨hl, ⟨rfl, h0⟩ | ⟨g, cap, cur, rfl, hb, hh, h1, h2, h3, h4⟩⟩ := h
  · exact ⟨none, 0, by rw [h0], fun h => by omega⟩
  · refine ⟨_, cap, rfl, fun _ => ⟨g, 0, rfl, fun i hi => ?_⟩⟩
    simp only [World.cell?, hh]
    have : cur.toList[i]? = (zs.map (Value.int k))[i]? := by
      rw [← h4, List.getElem?_take]; simp [hi]
    simp only [Nat.zero_add]
    simpa [List.getElem?_eq_getElem hi, List.getD_eq_getElem?_getD] using this

/-! ### sameRanges, where the two are the same -/
set_option maxHeartbeats 2000000 in
theorem same_yes (a1 a2 a3 : Option Addr) (c1 c2 c3 : Nat) (xs : List (Int × Int)) (w : World) (hm : xs.length ≤ 1048576) (h1 : Hid (IntRow .i32 w a1 (xs.map Prod.fst))) (h2 : Hid (IntRow .i32 w a2 (xs.map Prod.snd))) (h3 : Hid (PairRow .i32 w a3 xs)) :
    Calls Try.prog 13 #[.slice a1 xs.length c1, .slice a2 xs.length c2, .slice a3 xs.length c3] w fun e w' => e = .returned (.bool true) ∧ Below w.heap.size w w' := by
  go_enter Try.func13, Try.ntmps13
  go_wp2_with fail
  go_loopw [7] (fun i wr => ∃ k : Nat, k ≤ xs.length ∧ i = .int .i64 k ∧ Hid (Below w.heap.size w wr)) (fun i _ => xs.length - (intOf i).toNat)
  case atStart => exact ⟨0, Nat.zero_le _, rfl, Below.refl _ _⟩
  case round =>
    obtain ⟨k, hk, rfl, HB⟩ := hrel
    by_cases hlt : k < xs.length
    · obtain ⟨b1, o1, z1, rfl, d1, _, _, _, E1⟩ := h1.out.get HB.out (i := k) (by simpa using hlt)
      obtain ⟨b2, o2, z2, rfl, d2, _, _, _, E2⟩ := h2.out.get HB.out (i := k) (by simpa using hlt)
      obtain ⟨b3, o3, lo, hi, rfl, d3, d4, _, HX, _⟩ := h3.out.get HB.out hlt
      have hg : xs[k]'hlt = (lo, hi) := by
        have := HX.out; rw [List.drop_eq_getElem_cons hlt] at this; simp only [List.cons.injEq] at this; exact this.1
      obtain rfl : z1 = lo := by
        have := E1.out; rw [List.getD_eq_getElem?_getD, List.getElem?_map, List.getElem?_eq_getElem hlt, hg] at this; simpa using this.symm
      obtain rfl : z2 = hi := by
        have := E2.out; rw [List.getD_eq_getElem?_getD, List.getElem?_map, List.getElem?_eq_getElem hlt, hg] at this; simpa using this.symm
      have hk1 : (k : Int) < (xs.length : Int) := by omega
      clear HX E1 E2 hg h1 h2 h3
      go_wp2_with fail
      go_quiet (fail)
      go_wp2_with fail
      go_roundw
      case rel => exact ⟨k + 1, hlt, by go_num, below_drewN HB.out _⟩
      case measure => simp [intOf]; omega
    · go_wp2_with fail
      go_ret
      exact ⟨rfl, HB.out⟩
end Go.Proofs.Qxb6605195a
