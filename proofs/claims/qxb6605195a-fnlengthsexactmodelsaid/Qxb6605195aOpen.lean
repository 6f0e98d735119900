import Derived.Test.Qxb6605195aTree
import Derived.Test.Qxb6605195aRows
import Derived.Test.Qxb6605195aUnionProof
import Derived.Deep.SlicePairs
import Derived.ChangeOld
import Derived.Below
namespace Go.Proofs.Qxb6605195a.fnFirst
open Go.ChangeShapes Go.WideShapes Go.ChangeAt Go.RowKit Plain
open fnUnionIsCoverage (add_plain' open_pairs own laidOut)
set_option linter.unusedVariables false
set_option maxRecDepth 100000

theorem kid_range (T : Nat → Tr) (n i : Nat) (h : i < n) : kid ((List.range n).map T) i = T i := by
  simp [kid, List.getD_eq_getElem?_getD, h]
theorem one_cell {W : World} {x : Addr} {cs : List Value} (h : W.cells? 0 x 1 = some cs) : ∃ v, cs = [v] ∧ W.cell? x = some v := by
  obtain ⟨_, hl, hc⟩ := World.cells?_some h
  match cs, hl with
  | [v], _ =>
    have := hc 0 (by omega)
    refine ⟨v, rfl, ?_⟩
    have e : x.add 0 = x := by simp [Addr.add]
    rw [e] at this; simpa using this

theorem u8_of {n : Int} (h : (Lit.int .u8 n).wf = true) : 0 ≤ n ∧ n ≤ 255 := by
  simp only [Lit.wf, Bool.and_eq_true, decide_eq_true_eq] at h
  have e1 : IntKind.u8.min = 0 := by decide
  have e2 : IntKind.u8.max = 255 := by decide
  rw [e1, e2] at h; exact h
theorem i64_of {n : Int} (h : (Lit.int .i64 n).wf = true) : -9223372036854775808 ≤ n ∧ n ≤ 9223372036854775807 := by
  simp only [Lit.wf, Bool.and_eq_true, decide_eq_true_eq] at h
  have e1 : IntKind.i64.min = -9223372036854775808 := by decide
  have e2 : IntKind.i64.max = 9223372036854775807 := by decide
  rw [e1, e2] at h; exact h

theorem open_tree {H : Type} {enc : TypeId × Value → H} {W : World} : ∀ (fuel : Nat) (a : Option Addr) (y : DataW H × List MemPlace), DataW.trod enc Try.prog W 0 (fun _ => true) true fuel 39 [.pointer a] = some y → ∃ t, TreeAt W a t := by
  intro fuel
  induction fuel using Nat.strongRecOn with
  | ind fuel ih =>
    intro a y h
    rcases DataW.trod_pointer Try.underlying39 h with ⟨hcs, _⟩ | ⟨x, cs', y', m, hm, hcs, _, hcells, hy⟩
    · simp only [List.cons.injEq, Value.pointer.injEq, and_true] at hcs
      subst hcs
      exact ⟨.nil, .nil⟩
    · simp only [List.cons.injEq, Value.pointer.injEq, and_true] at hcs
      subst hcs
      have hC : Try.prog.cellsOf 73 = 5 := by kernel_rfl
      have h5c : Try.prog.cellsOf 5 = 1 := by kernel_rfl
      have h22c : Try.prog.cellsOf 22 = 1 := by kernel_rfl
      have h71c : Try.prog.cellsOf 71 = 1 := by kernel_rfl
      have h3c : Try.prog.cellsOf 3 = 1 := by kernel_rfl
      have h39c : Try.prog.cellsOf 39 = 1 := by kernel_rfl
      rw [hC] at hcells
      obtain ⟨_, hlen, hcell⟩ := World.cells?_some hcells
      obtain ⟨xs, n, hn, _, _, hxl, hf⟩ := DataW.trod_struct Try.underlying73 hy
      have f0 : DataW.trod enc Try.prog W 0 (fun _ => true) true n 5 ((cs'.drop 0).take (Try.prog.cellsOf 5)) = xs[0]? := hf 0 _ rfl
      have f1 : DataW.trod enc Try.prog W 0 (fun _ => true) true n 22 ((cs'.drop 1).take (Try.prog.cellsOf 22)) = xs[1]? := hf 1 _ rfl
      have f2 : DataW.trod enc Try.prog W 0 (fun _ => true) true n 71 ((cs'.drop 2).take (Try.prog.cellsOf 71)) = xs[2]? := hf 2 _ rfl
      have f3 : DataW.trod enc Try.prog W 0 (fun _ => true) true n 3 ((cs'.drop 3).take (Try.prog.cellsOf 3)) = xs[3]? := hf 3 _ rfl
      have f4 : DataW.trod enc Try.prog W 0 (fun _ => true) true n 3 ((cs'.drop 4).take (Try.prog.cellsOf 3)) = xs[4]? := hf 4 _ rfl
      match cs', hlen with
      | [v0, v1, v2, v3, v4], _ =>
      obtain ⟨b, off, spot⟩ := x
      have c0 := hcell 0 (by omega)
      have hspot : spot = none := by simpa [Addr.add] using World.cell?_spot c0
      subst hspot
      have c1 := hcell 1 (by omega)
      have c2 := hcell 2 (by omega)
      have c3 := hcell 3 (by omega)
      have c4 := hcell 4 (by omega)
      rw [add_plain'] at c0 c1 c2 c3 c4
      have hs5 : xs.length = 5 := hxl
      clear hf hxl
      match xs, hs5 with
      | [x0, x1, x2, x3, x4], _ =>
      simp only [h5c, h22c, h71c, h3c, List.drop_zero, List.drop_succ_cons, List.take_succ_cons, List.take_zero, List.getElem?_cons_zero, List.getElem?_cons_succ, Nat.add_zero] at f0 f1 f2 f3 f4 c0 c1 c2 c3 c4
      obtain ⟨op, e0, _, w0⟩ := DataW.trod_int Try.underlying5 f0
      obtain ⟨mn, e3, _, w3⟩ := DataW.trod_int Try.underlying3 f3
      obtain ⟨mx, e4, _, w4⟩ := DataW.trod_int Try.underlying3 f4
      simp only [List.cons.injEq, and_true] at e0 e3 e4
      subst e0 e3 e4
      have hset : ∃ (sa : Option Addr) (set : List (Int × Int)) (sc : Nat), v1 = .slice sa set.length sc ∧ Got W sa set sc ∧ set.length ≤ maxLen := by
        have hv : ∃ sa len sc, v1 = .slice sa len sc := by
          rcases DataW.trod_slice Try.underlying22 f1 with ⟨h1, _⟩ | ⟨a1, len, cap, _, _, _, _, h1, _⟩
          · simp only [List.cons.injEq, and_true] at h1; exact ⟨_, _, _, h1⟩
          · simp only [List.cons.injEq, and_true] at h1; exact ⟨_, _, _, h1⟩
        obtain ⟨sa, len, sc, rfl⟩ := hv
        obtain ⟨set, rfl, g, hm⟩ := open_pairs (a := sa) (len := len) (cap := sc) (by simpa [Value.cells] using f1)
        exact ⟨sa, set, sc, rfl, g, hm⟩
      obtain ⟨sa, set, sc, rfl, g, hsl⟩ := hset
      have hsub : ∃ (ua : Option Addr) (subs : List Tr) (uc : Nat) (ps : Nat → Option Addr), v2 = .slice ua subs.length uc ∧ (ua = none → subs = [] ∧ uc = 0) ∧ subs.length ≤ maxLen ∧
          (0 < subs.length → ∃ ub uo, ua = some ⟨ub, uo, none⟩ ∧ ∀ i, i < subs.length → W.cell? ⟨ub, uo + i, none⟩ = some (.pointer (ps i))) ∧ ∀ i, i < subs.length → TreeAt W (ps i) (kid subs i) := by
        rcases DataW.trod_slice Try.underlying71 f2 with ⟨h1, _⟩ | ⟨x, len, cap, elems, rest, k, hk, h1, _, _, hlc, hcm, hel, hcl, _⟩
        · simp only [List.cons.injEq, and_true] at h1
          exact ⟨none, [], 0, fun _ => none, h1, fun _ => ⟨rfl, rfl⟩, by simp, fun h => absurd h (by simp), fun i hi => absurd hi (by simp)⟩
        · simp only [List.cons.injEq, and_true] at h1
          rw [h39c] at hcl
          simp only [Nat.mul_one] at hcl
          have hkid : ∀ i, i < len → ∃ q : Option Addr × Tr, W.cell? (x.add i) = some (.pointer q.1) ∧ TreeAt W q.1 q.2 := by
            intro i hi
            have h2 := hcl i hi
            rw [List.getElem?_eq_getElem (by omega), Option.bind_eq_some_iff] at h2
            obtain ⟨cs, hc1, hc2⟩ := h2
            obtain ⟨v, rfl, hv⟩ := one_cell hc1
            have hp : ∃ p, v = .pointer p := by
              rcases DataW.trod_pointer Try.underlying39 hc2 with ⟨h3, _⟩ | ⟨_, _, _, _, _, h3, _⟩
              · simp only [List.cons.injEq, and_true] at h3; exact ⟨_, h3⟩
              · simp only [List.cons.injEq, and_true] at h3; exact ⟨_, h3⟩
            obtain ⟨p, rfl⟩ := hp
            obtain ⟨t, ht⟩ := ih k (by omega) p _ hc2
            exact ⟨(p, t), hv, ht⟩
          letI : Inhabited (Option Addr × Tr) := ⟨(none, .nil)⟩
          obtain ⟨q, hq⟩ := Deep.choose_lt hkid
          refine ⟨some x, (List.range len).map fun i => (q i).2, cap, fun i => (q i).1, ?_, fun h => (by cases h), ?_, ?_, ?_⟩
          · rw [h1]; simp
          · simp; omega
          · intro h0
            simp only [List.length_map, List.length_range] at h0 ⊢
            obtain ⟨ub, uo, spot⟩ := x
            have hspot : spot = none := by simpa [Addr.add] using World.cell?_spot (hq 0 h0).1
            subst hspot
            exact ⟨ub, uo, rfl, fun i hi => by rw [← add_plain']; exact (hq i hi).1⟩
          · intro i hi
            simp only [List.length_map, List.length_range] at hi
            rw [kid_range _ _ _ hi]
            exact (hq i hi).2
      obtain ⟨ua, subs, uc, ps, rfl, hun, hul, hup, hut⟩ := hsub
      unfold maxLen at hsl hul
      exact ⟨.node op set subs mn mx, .node b off op mn mx set sa sc subs ua uc ps c0 c1 g c2 hun c3 c4 (u8_of w0) (by omega) (by omega) (i64_of w3) (i64_of w4) hup hut⟩
end Go.Proofs.Qxb6605195a.fnFirst
