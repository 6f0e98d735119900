import Derived.Test.Qxb6605179aRows
import Derived.WalkKit
import Derived.ProofKit
import Derived.OpenShut
import Derived.WalkSpells
import Derived.WalkLawsBesides
import Derived.Deep.QuietTactic
import Derived.BigQuiet
import Derived.Maps.RangeWalk
import Derived.Maps.OwnSet
import Derived.Maps.OwnOps
import Derived.Maps.StringElems
namespace Go.Proofs.Qxb6605179a
open Go.ChangeShapes Go.WideShapes Go.ChangeAt Go.RowKit Go.WideMaps Go.Maps
set_option linter.unusedVariables false

theorem cell_lt' {w : World} {a : Addr} {v : Value} (h : w.cell? a = some v) : a.block < w.heap.size := by
  rcases Nat.lt_or_ge a.block w.heap.size with h' | h'
  · exact h'
  · simp [World.cell?, Array.getElem?_eq_none h'] at h

/-- a slice of strings that is only read -/
def StrRow (w : World) (a : Option Addr) (len : Nat) : Prop :=
  0 < len → ∃ b off, a = some ⟨b, off, none⟩ ∧ ∀ i, i < len → ∃ s : ByteArray, w.cell? ⟨b, off + i, none⟩ = some (.string s) ∧ s.size ≤ 9223372036854775807
/-- a slice of ints that is only read -/
def IntRow (w : World) (a : Option Addr) (len : Nat) : Prop :=
  0 < len → ∃ b off, a = some ⟨b, off, none⟩ ∧ ∀ i, i < len → ∃ n : Int, w.cell? ⟨b, off + i, none⟩ = some (.int .i64 n) ∧ (Lit.int .i64 n).wf = true
theorem StrRow.below {w w' : World} {a : Option Addr} {len : Nat} (h : StrRow w a len) (hb : Below w.heap.size w w') : StrRow w' a len := by
  intro h0
  obtain ⟨b, off, e, hc⟩ := h h0
  refine ⟨b, off, e, fun i hi => ?_⟩
  obtain ⟨s, hs, hl⟩ := hc i hi
  exact ⟨s, by rw [hb.cell (cell_lt' hs)]; exact hs, hl⟩
theorem IntRow.below {w w' : World} {a : Option Addr} {len : Nat} (h : IntRow w a len) (hb : Below w.heap.size w w') : IntRow w' a len := by
  intro h0
  obtain ⟨b, off, e, hc⟩ := h h0
  refine ⟨b, off, e, fun i hi => ?_⟩
  obtain ⟨s, hs, hl⟩ := hc i hi
  exact ⟨s, by rw [hb.cell (cell_lt' hs)]; exact hs, hl⟩

/-! ### the sizes -/
theorem ints_bytes (a : Option Addr) (len cap : Nat) (w : World) (hm : len ≤ 9223372036854775807) :
    Calls Try.prog 15 #[.slice a len cap] w fun e w' => (∃ n, e = .returned (.int .i64 n)) ∧ w' = w := by
  by_cases h : len ≤ 131072
  · go_enter Try.func15, Try.ntmps15
    go_wp2
    go_ret
    exact ⟨⟨_, rfl⟩, rfl⟩
  · go_enter Try.func15, Try.ntmps15
    go_wp2
    go_ret
    exact ⟨⟨_, rfl⟩, rfl⟩

set_option maxHeartbeats 1000000 in
theorem strs_bytes (a : Option Addr) (len cap : Nat) (w : World) (hm : len ≤ 9223372036854775807) (hr : StrRow w a len) :
    Calls Try.prog 14 #[.slice a len cap] w fun e w' => (∃ n, e = .returned (.int .i64 n)) ∧ w' = w := by
  have HR : Hid (StrRow w a len) := hr
  clear hr
  by_cases h : len ≤ 65536
  · go_enter Try.func14, Try.ntmps14
    go_wp2
    go_loop [3, 4] (fun t i => ∃ (k : Nat) (n : Int), k ≤ len ∧ 0 ≤ n ∧ n ≤ 2097152 ∧ i = .int .i64 k ∧ t = .int .i64 n) (fun _ i => len - (intOf i).toNat)
    case atStart => exact ⟨0, _, Nat.zero_le _, by omega, by omega, rfl, rfl⟩
    case round =>
      obtain ⟨k, n, hk, hn0, hn1, rfl, rfl⟩ := hrel
      by_cases hlt : k < len
      · obtain ⟨b, off, rfl, hc⟩ := HR.out (by omega)
        obtain ⟨s, hs, hsl⟩ := hc k hlt
        clear HR hc
        by_cases h1 : s.size ≤ 1048576
        · by_cases h2 : n + (s.size : Int) ≤ 1048576
          · go_wp2
            go_round
            case rel => exact ⟨k + 1, _, hlt, by omega, by omega, by go_num, rfl⟩
            case measure => simp [intOf]; omega
          · go_wp2
            go_ret
            exact ⟨⟨_, rfl⟩, rfl⟩
        · go_wp2
          go_ret
          exact ⟨⟨_, rfl⟩, rfl⟩
      · go_wp2
        go_ret
        exact ⟨⟨_, rfl⟩, rfl⟩
  · go_enter Try.func14, Try.ntmps14
    go_wp2
    go_ret
    exact ⟨⟨_, rfl⟩, rfl⟩

/-! ### the maps -/
theorem law9 : Keyed Try.prog 9 := string_keyed Try.underlying9
theorem zero3 (w : World) : (zeroValue 3).run Try.prog w = .ok (.int .i64 0) w := by kernel_rfl
theorem mk31 (n : Int) (w : World) : (Instr.makeMap 31 (some (.int .i64 n))).run Try.prog w = .ok (.map (some w.heap.size)) (w.alloc (.map #[] 0)) := by
  simp [Instr.makeMap, run_underlying Try.underlying31, Result.andThen, asInt, asIntOf]

/-- the value v is a map of strings to ints that reads as D -/
def MapAt (w : World) (v : Value) (D : DataW Unit) : Prop :=
  (v = .map none ∧ D = .map []) ∨ ∃ b n, v = .map (some b) ∧ w.ownsMap Try.prog 9 (plainElem Try.prog 3) b n D
theorem ownsMap_below {w w' : World} {b n : Nat} {D : DataW Unit} (h : w.ownsMap Try.prog 9 (plainElem Try.prog 3) b n D) {B : Nat} (hb : Below B w w') (hB : b < B) : w'.ownsMap Try.prog 9 (plainElem Try.prog 3) b n D := by
  obtain ⟨es, clock, h1, F, hs, e⟩ := h
  exact ⟨es, clock, by rw [hb.block _ hB]; exact h1, F, hs, e⟩
theorem MapAt.below {w w' : World} {v : Value} {D : DataW Unit} (h : MapAt w v D) (hb : Below w.heap.size w w') : MapAt w' v D := by
  rcases h with h | ⟨b, n, e, ho⟩
  · exact .inl h
  · exact .inr ⟨b, n, e, ownsMap_below ho hb ho.lt⟩
theorem MapAt.look {w : World} {v : Value} {D : DataW Unit} (h : MapAt w v D) (s : ByteArray) (hs : s.size ≤ maxLen) :
    ∃ c, (Instr.lookup 31 v (.string s) false).run Try.prog w = .ok (.int .i64 c) w ∧ D.atKey (.string s.data.toList) (.lit (.int .i64 0)) = .lit (.int .i64 c) ∧ (Lit.int .i64 c).wf = true := by
  have hkey := keyOf_string_mk (P := Try.prog) Try.underlying9 hs
  rcases h with ⟨rfl, rfl⟩ | ⟨b, n, rfl, ho⟩
  · exact ⟨0, by simpa using Maps.look_nil (w := w) false law9 Try.underlying31 (zero3 w) hkey, rfl, by decide⟩
  · exact ho.lookup_int law9 Try.underlying31 Try.underlying3 (zero3 w) hkey

theorem wf_of_bounds {n : Int} (h : (Lit.int .i64 n).wf = true) : -9223372036854775808 ≤ n ∧ n ≤ 9223372036854775807 := bounds_i64 h

set_option maxHeartbeats 1000000 in
theorem zeroMap_some (b off len cap : Nat) (w : World) (h0 : 0 < len) (hm : len ≤ 4096)
    (hc : ∀ i, i < len → ∃ s : ByteArray, w.cell? ⟨b, off + i, none⟩ = some (.string s) ∧ s.size ≤ 9223372036854775807) :
    Calls Try.prog 18 #[.slice (some ⟨b, off, none⟩) len cap] w fun e w' => (∃ D : DataW Unit, e = .returned (.map (some w.heap.size)) ∧ w'.ownsMap Try.prog 9 (plainElem Try.prog 3) w.heap.size len D ∧ ∀ kl, D.atKey kl (.lit (.int .i64 0)) = .lit (.int .i64 0)) ∧ Below w.heap.size w w' := by
  have hmm := mk31
  have hne : ((len : Int) == 0) = false := by simp; omega
  have HC : Hid (∀ i, i < len → ∃ s : ByteArray, w.cell? ⟨b, off + i, none⟩ = some (.string s) ∧ s.size ≤ 9223372036854775807) := hc
  clear hc
  go_enter Try.func18, Try.ntmps18
  go_wp2
  go_loopw [4] (fun i wr => ∃ (k : Nat) (D : DataW Unit), k ≤ len ∧ i = .int .i64 k ∧ Hid (wr.ownsMap Try.prog 9 (plainElem Try.prog 3) w.heap.size k D) ∧ Hid (∀ kl, D.atKey kl (.lit (.int .i64 0)) = .lit (.int .i64 0)) ∧ Hid (Below w.heap.size w wr)) (fun i _ => len - (intOf i).toNat)
  case atStart => exact ⟨0, .map [], Nat.zero_le _, rfl, World.ownsMap_made _ _ _ _, fun kl => rfl, (Below.refl _ _).alloc (Nat.le_refl _) _⟩
  case round =>
    obtain ⟨k, D, hk, rfl, HO, HZ, HB⟩ := hrel
    by_cases hlt : k < len
    · obtain ⟨s, hs0, hsl⟩ := HC.out k hlt
      have hs : wr.cell? ⟨b, off + k, none⟩ = some (.string s) := by rw [HB.out.cell (cell_lt' hs0)]; exact hs0
      have hkey := keyOf_string_mk (P := Try.prog) Try.underlying9 (show s.size ≤ maxLen by unfold maxLen; omega)
      have HK := hkey
      clear hkey hs0
      go_wp2_with (first | (at_mapUpdate; refine wpList_mapUpdate_own _ rfl _ _ _ 31 rfl 9 3 law9 Try.underlying31 _ w.heap.size k D rfl HO.out (by unfold maxLen; omega) _ _ _ rfl rfl HK _ [] (plainElem_int Try.underlying3 (by decide)) ?_; intro w1 hown1 hgrow1) | go_in)
      have HB1 : Hid (Below w.heap.size w w1) := HB.out.grown hgrow1 HB.out.size (fun j hj => by cases hj; exact Nat.le_refl _)
      have HO1 : Hid (w1.ownsMap Try.prog 9 (plainElem Try.prog 3) w.heap.size (k + 1) (D.put (.string s.data.toList) (.lit (.int .i64 0)))) := hown1
      have HZ1 : Hid (∀ kl, (D.put (.string s.data.toList) (.lit (.int .i64 0))).atKey kl (.lit (.int .i64 0)) = .lit (.int .i64 0)) := by
        intro kl
        by_cases e : kl = .string s.data.toList
        · subst e; exact atKey_put_same (k := .string s.data.toList) HO.out.isMap trivial _ _
        · rw [atKey_put_other e]; exact HZ.out kl
      clear hown1 hgrow1 HO HB HZ
      go_wp2
      go_roundw
      case rel => exact ⟨k + 1, _, hlt, by go_num, HO1, HZ1, HB1⟩
      case measure => simp [intOf]; omega
    · go_wp2
      go_ret
      exact ⟨⟨D, rfl, HO.out.mono hk, HZ.out⟩, HB⟩

theorem zeroMap_any (a : Option Addr) (len cap : Nat) (w : World) (hm : len ≤ 4096) (hr : StrRow w a len) :
    Calls Try.prog 18 #[.slice a len cap] w fun e w' => (∃ v D, e = .returned v ∧ MapAt w' v D ∧ ∀ kl, D.atKey kl (.lit (.int .i64 0)) = .lit (.int .i64 0)) ∧ Below w.heap.size w w' := by
  by_cases h0 : 0 < len
  · obtain ⟨b, off, rfl, hc⟩ := hr h0
    refine (zeroMap_some b off len cap w h0 hm hc).mono ?_
    rintro e w' ⟨⟨D, rfl, ho, hz⟩, hb⟩
    exact ⟨⟨_, D, rfl, .inr ⟨_, _, rfl, ho⟩, hz⟩, hb⟩
  · obtain rfl : len = 0 := by omega
    clear hr
    go_enter Try.func18, Try.ntmps18
    go_wp2
    go_ret
    exact ⟨⟨_, .map [], rfl, .inl ⟨rfl, rfl⟩, fun kl => rfl⟩, Below.refl _ _⟩

set_option maxHeartbeats 1000000 in
theorem pair_any (a1 a2 : Option Addr) (l1 c1 l2 c2 : Nat) (w : World) (h1 : l1 ≤ 4096) (h2 : l2 ≤ 4096) :
    Calls Try.prog 23 #[.slice a1 l1 c1, .slice a2 l2 c2] w fun e w' => e = .returned (.int .i64 ((min l1 l2 : Nat) : Int)) ∧ w' = w := by
  by_cases h : l2 < l1
  · have e : min l1 l2 = l2 := by omega
    rw [e]; clear e
    go_enter Try.func23, Try.ntmps23
    go_wp2
    go_ret
    exact ⟨rfl, rfl⟩
  · have e : min l1 l2 = l1 := by omega
    rw [e]; clear e
    go_enter Try.func23, Try.ntmps23
    go_wp2
    go_ret
    exact ⟨rfl, rfl⟩

set_option maxHeartbeats 1000000 in
theorem map_some (b1 off1 l1 c1 b2 off2 l2 c2 n : Nat) (w : World) (h0 : 0 < n) (hn : Hid (min l1 l2 = n)) (hn1 : n ≤ l1) (hn2 : n ≤ l2) (h1 : l1 ≤ 4096) (h2 : l2 ≤ 4096)
    (hc1 : ∀ i, i < n → ∃ s : ByteArray, w.cell? ⟨b1, off1 + i, none⟩ = some (.string s) ∧ s.size ≤ 9223372036854775807)
    (hc2 : ∀ i, i < n → ∃ x : Int, w.cell? ⟨b2, off2 + i, none⟩ = some (.int .i64 x) ∧ (Lit.int .i64 x).wf = true) :
    Calls Try.prog 17 #[.slice (some ⟨b1, off1, none⟩) l1 c1, .slice (some ⟨b2, off2, none⟩) l2 c2] w fun e w' => (∃ D : DataW Unit, e = .returned (.map (some w.heap.size)) ∧ w'.ownsMap Try.prog 9 (plainElem Try.prog 3) w.heap.size n D) ∧ Below w.heap.size w w' := by
  have hmm := mk31
  have hne : ((n : Int) == 0) = false := by simp; omega
  have HC1 : Hid (∀ i, i < n → ∃ s : ByteArray, w.cell? ⟨b1, off1 + i, none⟩ = some (.string s) ∧ s.size ≤ 9223372036854775807) := hc1
  have HC2 : Hid (∀ i, i < n → ∃ x : Int, w.cell? ⟨b2, off2 + i, none⟩ = some (.int .i64 x) ∧ (Lit.int .i64 x).wf = true) := hc2
  clear hc1 hc2
  go_enter Try.func17, Try.ntmps17
  go_wp2_with (first | (go_at_call 23; refine (pair_any _ _ _ _ _ _ _ h1 h2).mono ?_; rintro e w' ⟨rfl, rfl⟩; rw [hn.out]) | go_in)
  go_loopw [7] (fun i wr => ∃ (k : Nat) (D : DataW Unit), k ≤ n ∧ i = .int .i64 k ∧ Hid (wr.ownsMap Try.prog 9 (plainElem Try.prog 3) w'.heap.size k D) ∧ Hid (Below w'.heap.size w' wr)) (fun i _ => n - (intOf i).toNat)
  case atStart => exact ⟨0, .map [], Nat.zero_le _, rfl, World.ownsMap_made _ _ _ _, (Below.refl _ _).alloc (Nat.le_refl _) _⟩
  case round =>
    obtain ⟨k, D, hk, rfl, HO, HB⟩ := hrel
    by_cases hlt : k < n
    · obtain ⟨s, hs0, hsl⟩ := HC1.out k hlt
      obtain ⟨x, hx0, hxw⟩ := HC2.out k hlt
      have hs : wr.cell? ⟨b1, off1 + k, none⟩ = some (.string s) := by rw [HB.out.cell (cell_lt' hs0)]; exact hs0
      have hx : wr.cell? ⟨b2, off2 + k, none⟩ = some (.int .i64 x) := by rw [HB.out.cell (cell_lt' hx0)]; exact hx0
      have hkey := keyOf_string_mk (P := Try.prog) Try.underlying9 (show s.size ≤ maxLen by unfold maxLen; omega)
      obtain ⟨w1, hrun, hown1, hgrow1⟩ := (HO.out.drew).update law9 Try.underlying31 (by unfold maxLen; omega) hkey (plainElem_int Try.underlying3 hxw)
      have HB1 : Hid (Below w'.heap.size w' w1) := HB.out.drew.grown hgrow1 HB.out.size (fun j hj => by cases hj; exact Nat.le_refl _)
      have HO1 : Hid (w1.ownsMap Try.prog 9 (plainElem Try.prog 3) w'.heap.size (k + 1) (D.put (.string s.data.toList) (.lit (.int .i64 x)))) := hown1
      have k1 : (k : Int) < (l1 : Int) := by omega
      have k2 : (k : Int) < (l2 : Int) := by omega
      clear hown1 hgrow1 HO HB hkey hs0 hx0 hxw
      go_wp2
      go_region
      all_goals
        go_wp2
        go_roundw
        case rel => exact ⟨k + 1, _, hlt, by go_num, HO1, HB1⟩
        case measure => simp [intOf]; omega
    · go_wp2
      go_ret
      exact ⟨⟨D, rfl, HO.out.mono hk⟩, HB⟩

end Go.Proofs.Qxb6605179a
