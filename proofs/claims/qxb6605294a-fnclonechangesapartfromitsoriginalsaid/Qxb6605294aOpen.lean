import Derived.Test.Qxb6605294aGraph
import Derived.OpenShut
import Derived.Deep.Matrix
import Derived.Deep.Grids
import Derived.ChangeOld
import Derived.Below
set_option maxRecDepth 100000
namespace Go.Proofs.Qxb6605294a
open Go.ChangeShapes Go.WideShapes Go.ChangeAt Go.RowKit
set_option linter.unusedVariables false

theorem add_plain' (b off i : Nat) : (⟨b, off, none⟩ : Addr).add i = ⟨b, off + i, none⟩ := by unfold Addr.add; split <;> simp_all
theorem spot_none {W : World} {b off : Nat} {spot : Option Nat} {v : Value} (h : W.cell? ((⟨b, off, spot⟩ : Addr).add 0) = some v) : spot = none := by
  simpa [Addr.add] using World.cell?_spot h
section
variable {H : Type} {enc : TypeId × Value → H} {W : World} {a : Option Addr} {len cap : Nat} {y : DataW H × List MemPlace} {fuel : Nat}
theorem getD_take {α : Type} {zs : List α} {len i : Nat} {d : α} (hi : i < len) : (zs.take len).getD i d = zs.getD i d := by
  rw [List.getD_eq_getElem?_getD, List.getD_eq_getElem?_getD, List.getElem?_take, if_pos hi]
/-- a slice of ints -/
theorem open_introw {t e : TypeId} (ht : Try.prog.underlying t = some (.slice e)) (he : Try.prog.underlying e = some (.int .i64)) (hc : Try.prog.cellsOf e = 1) (h : DataW.trod enc Try.prog W 0 (fun _ => true) true fuel t (Value.slice a len cap).cells.toList = some y) :
    ∃ xs : List Int, xs.length = len ∧ IRow W a xs ∧ (a = none → xs = [] ∧ cap = 0) ∧ len ≤ 9223372036854775807 ∧ ∀ v ∈ xs, (Lit.int .i64 v).wf = true := by
  rcases open_ints ht he hc h with ⟨hcs, _⟩ | ⟨x, l, c, zs, hcs, _, hl, hm, hz, _, hcell, hwz⟩
  · simp [Value.cells] at hcs
    obtain ⟨rfl, rfl, rfl⟩ := hcs
    exact ⟨[], rfl, row_nil _ _, fun _ => ⟨rfl, rfl⟩, by omega, fun v hv => (by cases hv)⟩
  · simp [Value.cells] at hcs
    obtain ⟨rfl, rfl, rfl⟩ := hcs
    simp only [if_true] at hz
    unfold maxLen at hm
    refine ⟨zs.take len, by simp; omega, fun h0 => ?_, fun h => (by cases h), by omega, fun v hv => hwz v (List.mem_of_mem_take hv)⟩
    obtain ⟨b, off, spot⟩ := x
    have hl0 : 0 < zs.length := by simp at h0; omega
    have := spot_none (hcell 0 hl0)
    subst this
    refine ⟨b, off, rfl, fun i hi => ?_⟩
    have hi' : i < len := by simp at hi; omega
    rw [getD_take hi', ← add_plain']
    exact hcell i (by omega)
/-- a slice of bools -/
theorem open_boolrow (h : DataW.trod enc Try.prog W 0 (fun _ => true) true fuel 37 (Value.slice a len cap).cells.toList = some y) :
    ∃ xs : List Bool, xs.length = len ∧ Row Value.bool false W a xs ∧ (a = none → xs = [] ∧ cap = 0) ∧ len ≤ 9223372036854775807 := by
  rcases Deep.open_bools Try.underlying37 Try.underlying4 (by kernel_rfl) h with ⟨hcs, _⟩ | ⟨x, l, c, B, hcs, _, hl, hm, _, hcell⟩
  · simp [Value.cells] at hcs
    obtain ⟨rfl, rfl, rfl⟩ := hcs
    exact ⟨[], rfl, row_nil _ _, fun _ => ⟨rfl, rfl⟩, by omega⟩
  · simp [Value.cells] at hcs
    obtain ⟨rfl, rfl, rfl⟩ := hcs
    unfold maxLen at hm
    refine ⟨(List.range len).map B, by simp, fun h0 => ?_, fun h => (by cases h), by omega⟩
    obtain ⟨b, off, spot⟩ := x
    simp only [List.length_map, List.length_range] at h0 ⊢
    have := spot_none (hcell 0 (by omega))
    subst this
    refine ⟨b, off, rfl, fun i hi => ?_⟩
    have hg : ((List.range len).map B).getD i false = B i := by rw [List.getD_eq_getElem?_getD]; simp [hi]
    rw [hg, ← add_plain']
    exact hcell i (by omega)
/-- a slice of slices of ints -/
theorem open_lists {t e q : TypeId} (ht : Try.prog.underlying t = some (.slice e)) (he : Try.prog.underlying e = some (.slice q)) (hq : Try.prog.underlying q = some (.int .i64)) (ce : Try.prog.cellsOf e = 1) (cq : Try.prog.cellsOf q = 1) (h : DataW.trod enc Try.prog W 0 (fun _ => true) true fuel t (Value.slice a len cap).cells.toList = some y) :
    ∃ xss : List (List Int), xss.length = len ∧ LRow W a xss ∧ (a = none → xss = [] ∧ cap = 0) ∧ len ≤ 9223372036854775807 ∧ ∀ i, (xss.getD i []).length ≤ 9223372036854775807 := by
  rcases Deep.open_int_rows ht he hq ce cq h with ⟨hcs, _⟩ | ⟨x, l, c, A, L, C, Z, hcs, _, hl, hm, _, hcell⟩
  · simp [Value.cells] at hcs
    obtain ⟨rfl, rfl, rfl⟩ := hcs
    exact ⟨[], rfl, lrow_nil _ _, fun _ => ⟨rfl, rfl⟩, by omega, fun i => by simp⟩
  · simp [Value.cells] at hcs
    obtain ⟨rfl, rfl, rfl⟩ := hcs
    unfold maxLen at hm
    have hg : ∀ i, i < len → ((List.range len).map fun r => (Z r).take (L r)).getD i [] = (Z i).take (L i) := fun i hi => by rw [List.getD_eq_getElem?_getD]; simp [hi]
    have hlen : ∀ i, i < len → ((Z i).take (L i)).length = L i := fun i hi => by
      obtain ⟨_, h2, _, h4, _⟩ := hcell i (by omega)
      rw [List.length_take]; omega
    refine ⟨(List.range len).map fun r => (Z r).take (L r), by simp, fun h0 => ?_, fun h => (by cases h), by omega, fun i => ?_⟩
    · obtain ⟨b, off, spot⟩ := x
      simp only [List.length_map, List.length_range] at h0 ⊢
      have h00 := (hcell 0 (by omega)).1
      have := spot_none h00
      subst this
      refine ⟨b, off, fun i => .slice (A i) (L i) (C i), rfl, cell_lt' (by rw [add_plain'] at h00; exact h00), fun i hi => ⟨by rw [← add_plain']; exact (hcell i (by omega)).1, ?_⟩⟩
      rw [hg i hi]
      obtain ⟨h1, h2, h3, h4, h5, h6, h7⟩ := hcell i (by omega)
      refine ⟨A i, C i, by rw [hlen i hi], by rw [hlen i hi]; exact h2, ?_, fun hn => ?_⟩
      · intro hp
        rw [hlen i hi] at hp
        cases hA : A i with
        | none => have := h6 hA; omega
        | some x' =>
          obtain ⟨b', off', spot'⟩ := x'
          have hc := (h7 _ hA).2
          have := spot_none (hc 0 (by omega))
          subst this
          refine ⟨b', off', rfl, fun j hj => ?_⟩
          rw [hlen i hi] at hj
          rw [getD_take hj, ← add_plain']
          exact hc j (by omega)
      · have := h6 hn
        exact ⟨List.length_eq_zero_iff.1 (by rw [hlen i hi]; omega), this⟩
    · by_cases hi : i < len
      · rw [hg i hi, hlen i hi]
        obtain ⟨_, h2, h3, _⟩ := hcell i (by omega)
        unfold maxLen at h3
        omega
      · rw [List.getD_eq_getElem?_getD, List.getElem?_eq_none (by simp; omega)]
        simp
theorem pair_cells {n : Nat} {c0 c1 : Value} {D : DataW H} {p : List MemPlace} (h : DataW.trod enc Try.prog W 0 (fun _ => true) true n 73 [c0, c1] = some (D, p)) : ∃ z : Int × Int, c0 = .int .i64 z.1 ∧ c1 = .int .i64 z.2 ∧ wfK z := by
  cases n with
  | zero => simp [DataW.trod] at h
  | succ n =>
    rw [DataW.trod_step] at h
    unfold DataW.trodStep at h
    simp only [arr73.hu] at h
    rw [if_pos (by rw [arr73.size]; rfl)] at h
    simp only [Option.map_eq_some_iff] at h
    obtain ⟨xs, hx, e1⟩ := h
    rw [show List.range 2 = [0, 1] from rfl, List.mapM_cons, List.mapM_cons, List.mapM_nil] at hx
    simp only [bind, Option.bind_eq_some_iff, pure, Option.some.injEq, arr73.one] at hx
    obtain ⟨y0, h0, _, ⟨y1, h1, _, rfl, rfl⟩, rfl⟩ := hx
    obtain ⟨z0, ea, _, wa⟩ := DataW.trod_int Try.underlying3 h0
    obtain ⟨z1, eb, _, wb⟩ := DataW.trod_int Try.underlying3 h1
    simp at ea eb
    exact ⟨(z0, z1), ea, eb, wa, wb⟩
/-- a slice of [2]int -/
theorem open_keys (h : DataW.trod enc Try.prog W 0 (fun _ => true) true fuel 45 (Value.slice a len cap).cells.toList = some y) :
    ∃ xs : List (Int × Int), xs.length = len ∧ PairRow W a xs ∧ (a = none → xs = [] ∧ cap = 0) ∧ len ≤ 9223372036854775807 ∧ ∀ k ∈ xs, wfK k := by
  rcases Deep.open_slice Try.underlying45 h with ⟨hcs, _⟩ | ⟨x, l, c, m, n, D, Pl, hcs, _, hl, hm, hmm, _, hx⟩
  · simp [Value.cells] at hcs
    obtain ⟨rfl, rfl, rfl⟩ := hcs
    exact ⟨[], rfl, fun h => absurd h (by simp), fun _ => ⟨rfl, rfl⟩, by omega, fun v hv => (by cases hv)⟩
  · simp [Value.cells] at hcs
    obtain ⟨rfl, rfl, rfl⟩ := hcs
    simp only [if_true] at hmm
    subst hmm
    unfold maxLen at hm
    have hs : Try.prog.cellsOf 73 = 2 := arr73.size
    have hv : ∀ i, i < len → ∃ z : Int × Int, W.cell? ((x.add (i * 2)).add 0) = some (.int .i64 z.1) ∧ W.cell? ((x.add (i * 2)).add 1) = some (.int .i64 z.2) ∧ wfK z := by
      intro i hi
      obtain ⟨cs', h1, h2⟩ := hx i (by omega)
      rw [hs] at h1
      obtain ⟨_, hlen, hc⟩ := World.cells?_some h1
      match cs', hlen with
      | [c0, c1], _ =>
        obtain ⟨z, rfl, rfl, hw⟩ := pair_cells h2
        exact ⟨z, hc 0 (by omega), hc 1 (by omega), hw⟩
    obtain ⟨q, hq⟩ := Deep.choose_lt hv
    refine ⟨(List.range len).map q, by simp, fun h0 => ?_, fun h => (by cases h), by omega, fun k hk => ?_⟩
    · simp only [List.length_map, List.length_range] at h0 ⊢
      obtain ⟨b, off, spot⟩ := x
      have h00 := (hq 0 (by omega)).1
      have hsp : spot = none := by
        have : W.cell? ((⟨b, off, spot⟩ : Addr).add 0) = some (.int .i64 (q 0).1) := by simpa [Addr.add] using h00
        exact spot_none this
      subst hsp
      refine ⟨b, off, rfl, fun i hi => ?_⟩
      have hg : ((List.range len).map q).getD i (0, 0) = q i := by rw [List.getD_eq_getElem?_getD]; simp [hi]
      rw [hg]
      obtain ⟨g0, g1, _⟩ := hq i hi
      rw [add_plain', add_plain'] at g0 g1
      exact ⟨g0, g1⟩
    · obtain ⟨i, hi, rfl⟩ := List.mem_map.1 hk
      exact (hq i (by simpa using hi)).2.2
end
end Go.Proofs.Qxb6605294a
