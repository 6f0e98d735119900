import Derived.Test.Qxb6605294aMem2
import Derived.Deep.RegionLaw
import Derived.Deep.RegionHeld3
set_option maxRecDepth 100000
namespace Go.Proofs.Qxb6605294a
open Go.ChangeShapes Go.WideShapes Go.ChangeAt Go.RowKit
set_option linter.unusedVariables false

set_option maxHeartbeats 2000000 in
theorem sameInts_yes (a1 a2 : Option Addr) (c1 c2 : Nat) (L : List Int) (w : World) (hm : L.length ≤ 100000000) (h1 : Hid (Row (Value.int .i64) 0 w a1 L)) (h2 : Hid (Row (Value.int .i64) 0 w a2 L)) :
    Calls Try.prog 26 #[.slice a1 L.length c1, .slice a2 L.length c2] w fun e w' => e = .returned (.bool true) ∧ Hid (Below w.heap.size w w') := by
  go_enter Try.func26, Try.ntmps26
  go_wp2_with fail
  go_loopw [5] (fun i wr => ∃ k : Nat, k ≤ L.length ∧ i = .int .i64 k ∧ Hid (Below w.heap.size w wr)) (fun i _ => L.length - (intOf i).toNat)
  case atStart => exact ⟨0, Nat.zero_le _, rfl, Below.refl _ _⟩
  case round =>
    obtain ⟨k, hk, rfl, HB⟩ := hrel
    by_cases hlt : k < L.length
    · obtain ⟨b1, o1, z1, rfl, d1, _, _, _, E1⟩ := h1.out.get HB.out hlt
      obtain ⟨b2, o2, z2, rfl, d2, _, _, _, E2⟩ := h2.out.get HB.out hlt
      obtain rfl : z1 = z2 := E1.out.symm.trans E2.out
      have hk1 : (k : Int) < (L.length : Int) := by omega
      clear E1 E2 h1 h2
      go_wp2_with fail
      go_quiet (fail)
      go_wp2_with fail
      go_roundw
      case rel => exact ⟨k + 1, hlt, by go_num, below_drewN HB.out _⟩
      case measure => simp [intOf]; omega
    · go_wp2_with fail
      go_ret
      exact ⟨rfl, HB⟩

set_option maxHeartbeats 2000000 in
theorem sameI64_yes (a1 a2 : Option Addr) (c1 c2 : Nat) (L : List Int) (w : World) (hm : L.length ≤ 100000000) (h1 : Hid (Row (Value.int .i64) 0 w a1 L)) (h2 : Hid (Row (Value.int .i64) 0 w a2 L)) :
    Calls Try.prog 53 #[.slice a1 L.length c1, .slice a2 L.length c2] w fun e w' => e = .returned (.bool true) ∧ Hid (Below w.heap.size w w') := by
  go_enter Try.func53, Try.ntmps53
  go_wp2_with fail
  go_loopw [5] (fun i wr => ∃ k : Nat, k ≤ L.length ∧ i = .int .i64 k ∧ Hid (Below w.heap.size w wr)) (fun i _ => L.length - (intOf i).toNat)
  case atStart => exact ⟨0, Nat.zero_le _, rfl, Below.refl _ _⟩
  case round =>
    obtain ⟨k, hk, rfl, HB⟩ := hrel
    by_cases hlt : k < L.length
    · obtain ⟨b1, o1, z1, rfl, d1, _, _, _, E1⟩ := h1.out.get HB.out hlt
      obtain ⟨b2, o2, z2, rfl, d2, _, _, _, E2⟩ := h2.out.get HB.out hlt
      obtain rfl : z1 = z2 := E1.out.symm.trans E2.out
      have hk1 : (k : Int) < (L.length : Int) := by omega
      clear E1 E2 h1 h2
      go_wp2_with fail
      go_quiet (fail)
      go_wp2_with fail
      go_roundw
      case rel => exact ⟨k + 1, hlt, by go_num, below_drewN HB.out _⟩
      case measure => simp [intOf]; omega
    · go_wp2_with fail
      go_ret
      exact ⟨rfl, HB⟩

set_option maxHeartbeats 2000000 in
theorem sameBools_yes (a1 a2 : Option Addr) (c1 c2 : Nat) (L : List Bool) (w : World) (hm : L.length ≤ 100000000) (h1 : Hid (Row Value.bool false w a1 L)) (h2 : Hid (Row Value.bool false w a2 L)) :
    Calls Try.prog 54 #[.slice a1 L.length c1, .slice a2 L.length c2] w fun e w' => e = .returned (.bool true) ∧ Hid (Below w.heap.size w w') := by
  go_enter Try.func54, Try.ntmps54
  go_wp2_with fail
  go_loopw [5] (fun i wr => ∃ k : Nat, k ≤ L.length ∧ i = .int .i64 k ∧ Hid (Below w.heap.size w wr)) (fun i _ => L.length - (intOf i).toNat)
  case atStart => exact ⟨0, Nat.zero_le _, rfl, Below.refl _ _⟩
  case round =>
    obtain ⟨k, hk, rfl, HB⟩ := hrel
    by_cases hlt : k < L.length
    · obtain ⟨b1, o1, z1, rfl, d1, _, _, _, E1⟩ := h1.out.get HB.out hlt
      obtain ⟨b2, o2, z2, rfl, d2, _, _, _, E2⟩ := h2.out.get HB.out hlt
      obtain rfl : z1 = z2 := E1.out.symm.trans E2.out
      have hk1 : (k : Int) < (L.length : Int) := by omega
      clear E1 E2 h1 h2
      go_wp2_with fail
      go_quiet (fail)
      go_wp2_with fail
      go_roundw
      case rel => exact ⟨k + 1, hlt, by go_num, below_drewN HB.out _⟩
      case measure => simp [intOf]; omega
    · go_wp2_with fail
      go_ret
      exact ⟨rfl, HB⟩

set_option maxHeartbeats 2000000 in
theorem sameLists_yes (a1 a2 : Option Addr) (c1 c2 : Nat) (L : List (List Int)) (w : World) (hm : L.length ≤ 100000000) (hm2 : Hid (∀ i, (L.getD i []).length ≤ 100000000)) (h1 : Hid (LRow w a1 L)) (h2 : Hid (LRow w a2 L)) :
    Calls Try.prog 25 #[.slice a1 L.length c1, .slice a2 L.length c2] w fun e w' => e = .returned (.bool true) ∧ Hid (Below w.heap.size w w') := by
  go_enter Try.func25, Try.ntmps25
  go_wp2_with fail
  go_loopw [5] (fun i wr => ∃ k : Nat, k ≤ L.length ∧ i = .int .i64 k ∧ Hid (Below w.heap.size w wr)) (fun i _ => L.length - (intOf i).toNat)
  case atStart => exact ⟨0, Nat.zero_le _, rfl, Below.refl _ _⟩
  case round =>
    obtain ⟨k, hk, rfl, HB⟩ := hrel
    by_cases hlt : k < L.length
    · obtain ⟨b1, o1, i1, j1, xs, rfl, d1, _, R1, _, E1, _⟩ := h1.out.get HB.out hlt
      obtain ⟨b2, o2, i2, j2, ys, rfl, d2, _, R2, _, E2, _⟩ := h2.out.get HB.out hlt
      obtain rfl : xs = ys := E1.out.symm.trans E2.out
      have hk1 : (k : Int) < (L.length : Int) := by omega
      have hxl : xs.length ≤ 100000000 := by rw [← E1.out]; exact hm2.out k
      have l1 := hid (cell_lt' d1)
      have l2 := hid (cell_lt' d2)
      clear E1 E2 h1 h2 hm2
      go_wp2_with fail
      go_region_held3 (fun w' => w'.cell? ⟨b1, o1 + k, none⟩ = some (.slice i1 xs.length j1) ∧ w'.cell? ⟨b2, o2 + k, none⟩ = some (.slice i2 xs.length j2)) (first | exact ⟨by assumption, by assumption⟩ | go_keep)
        (first
        | (go_at_call 26; refine (sameInts_yes i1 i2 j1 j2 xs _ hxl ?_ ?_).mono ?_; (exact R1); (exact R2); rintro e w2 ⟨rfl, B2⟩; (have D2 := hid ((Below.drew (Below.refl _ _)).trans B2.out : Below wr.heap.size wr w2)); (have f1 : w2.cell? ⟨b1, o1 + k, none⟩ = some (.slice i1 xs.length j1) := (D2.out.cell (p := ⟨b1, o1 + k, none⟩) l1.out).trans d1); (have f2 : w2.cell? ⟨b2, o2 + k, none⟩ = some (.slice i2 xs.length j2) := (D2.out.cell (p := ⟨b2, o2 + k, none⟩) l2.out).trans d2)))
      have HB2 := hid (below_next HB.out D2.out)
      go_wp2_with fail
      go_roundw
      case rel => exact ⟨k + 1, hlt, by go_num, HB2⟩
      case measure => simp [intOf]; omega
    · go_wp2_with fail
      go_ret
      exact ⟨rfl, HB⟩

set_option maxHeartbeats 2000000 in
theorem sameL64_yes (a1 a2 : Option Addr) (c1 c2 : Nat) (L : List (List Int)) (w : World) (hm : L.length ≤ 100000000) (hm2 : Hid (∀ i, (L.getD i []).length ≤ 100000000)) (h1 : Hid (LRow w a1 L)) (h2 : Hid (LRow w a2 L)) :
    Calls Try.prog 63 #[.slice a1 L.length c1, .slice a2 L.length c2] w fun e w' => e = .returned (.bool true) ∧ Hid (Below w.heap.size w w') := by
  go_enter Try.func63, Try.ntmps63
  go_wp2_with fail
  go_loopw [5] (fun i wr => ∃ k : Nat, k ≤ L.length ∧ i = .int .i64 k ∧ Hid (Below w.heap.size w wr)) (fun i _ => L.length - (intOf i).toNat)
  case atStart => exact ⟨0, Nat.zero_le _, rfl, Below.refl _ _⟩
  case round =>
    obtain ⟨k, hk, rfl, HB⟩ := hrel
    by_cases hlt : k < L.length
    · obtain ⟨b1, o1, i1, j1, xs, rfl, d1, _, R1, _, E1, _⟩ := h1.out.get HB.out hlt
      obtain ⟨b2, o2, i2, j2, ys, rfl, d2, _, R2, _, E2, _⟩ := h2.out.get HB.out hlt
      obtain rfl : xs = ys := E1.out.symm.trans E2.out
      have hk1 : (k : Int) < (L.length : Int) := by omega
      have hxl : xs.length ≤ 100000000 := by rw [← E1.out]; exact hm2.out k
      have l1 := hid (cell_lt' d1)
      have l2 := hid (cell_lt' d2)
      clear E1 E2 h1 h2 hm2
      go_wp2_with fail
      go_region_held3 (fun w' => w'.cell? ⟨b1, o1 + k, none⟩ = some (.slice i1 xs.length j1) ∧ w'.cell? ⟨b2, o2 + k, none⟩ = some (.slice i2 xs.length j2)) (first | exact ⟨by assumption, by assumption⟩ | go_keep)
        (first
        | (go_at_call 53; refine (sameI64_yes i1 i2 j1 j2 xs _ hxl ?_ ?_).mono ?_; (exact R1); (exact R2); rintro e w2 ⟨rfl, B2⟩; (have D2 := hid ((Below.drew (Below.refl _ _)).trans B2.out : Below wr.heap.size wr w2)); (have f1 : w2.cell? ⟨b1, o1 + k, none⟩ = some (.slice i1 xs.length j1) := (D2.out.cell (p := ⟨b1, o1 + k, none⟩) l1.out).trans d1); (have f2 : w2.cell? ⟨b2, o2 + k, none⟩ = some (.slice i2 xs.length j2) := (D2.out.cell (p := ⟨b2, o2 + k, none⟩) l2.out).trans d2)))
      have HB2 := hid (below_next HB.out D2.out)
      go_wp2_with fail
      go_roundw
      case rel => exact ⟨k + 1, hlt, by go_num, HB2⟩
      case measure => simp [intOf]; omega
    · go_wp2_with fail
      go_ret
      exact ⟨rfl, HB⟩
end Go.Proofs.Qxb6605294a
