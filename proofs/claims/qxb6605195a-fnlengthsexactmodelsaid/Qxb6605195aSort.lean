import Derived.Test.Qxb6605195aWalk4
import Derived.Shelf.SlSortCmp.WholeK
import Derived.Shelf.Lay
import Derived.Ground.SlsfProg
set_option maxRecDepth 100000
namespace Go.Proofs
open Go.Shelf Go.RowKit Go.Lib Go.Sort
shelf_lay_g SlLaysF0.n6 Slsf 6 at Try 43 as Try.sortRR
end Go.Proofs
namespace Go.Proofs.Qxb6605195a
open Go.ChangeShapes Go.WideShapes Go.ChangeAt Go.RowKit Plain
open Go.Shelf Go.Lib Go.Sort
set_option linter.unusedVariables false

/-- a range of characters, each end within 0 .. 0x10FFFF -/
def RR : Type := Fin 1114112 × Fin 1114112
def RR.zero : RR := (⟨0, by decide⟩, ⟨0, by decide⟩)
def dec (x : RR) : Int × Int := ((x.1.val : Int), (x.2.val : Int))
def toF (r : Int × Int) : RR := (⟨r.1.toNat % 1114112, Nat.mod_lt _ (by decide)⟩, ⟨r.2.toNat % 1114112, Nat.mod_lt _ (by decide)⟩)
def encRR (x : RR) : List Value := [.int .i32 (x.1.val : Int), .int .i32 (x.2.val : Int)]
def cfRR (x y : RR) : Int := (x.1.val : Int) - (y.1.val : Int)
theorem dec_toF {r : Int × Int} (h : 0 ≤ r.1 ∧ r.1 ≤ 1114111 ∧ 0 ≤ r.2 ∧ r.2 ≤ 1114111) : dec (toF r) = r := by
  obtain ⟨a, b⟩ := r
  simp only at h
  simp only [dec, toF, Prod.mk.injEq]
  exact ⟨by omega, by omega⟩
theorem map_dec {xs : List (Int × Int)} (h : Dom xs) : (xs.map toF).map dec = xs := by
  rw [List.map_map]
  conv => rhs; rw [← List.map_id xs]
  exact List.map_congr_left fun r hr => dec_toF (h r hr)
theorem dom_dec (l : List RR) : Dom (l.map dec) := by
  intro r hr
  simp only [List.mem_map] at hr
  obtain ⟨x, _, rfl⟩ := hr
  have h1 := x.1.isLt
  have h2 := x.2.isLt
  simp only [dec]; omega

theorem ltRR (x y : RR) : ltOf cfRR x y = decide (x.1.val < y.1.val) := by
  unfold ltOf cfRR
  by_cases h : x.1.val < y.1.val
  · simp [h]; omega
  · simp [h]; omega
theorem swoRR : SWO (ltOf cfRR) where
  irrefl x := by rw [ltRR]; simp
  trans x y z h1 h2 := by rw [ltRR] at *; simp at *; omega
  ntrans x y z h1 h2 := by rw [ltRR] at *; simp at *; omega

set_option maxHeartbeats 1000000 in
theorem closure44 (x1 x2 y1 y2 : Int) (W : World) (h1 : 0 ≤ x1) (h2 : x1 ≤ 1114111) (h3 : 0 ≤ y1) (h4 : y1 ≤ 1114111) :
    Calls Try.prog 44 #[.agg #[.int .i32 x1, .int .i32 x2], .agg #[.int .i32 y1, .int .i32 y2]] W fun e w' => e = .returned (.int .i64 (x1 - y1)) ∧ ∃ q os', w' = grow (W.drewN q) os' := by
  go_enter Try.func44, Try.ntmps44
  go_wp2
  go_ret
  exact ⟨rfl, 0, _, by rw [alloc_eq_grow, alloc_eq_grow, grow_grow]; rfl⟩

theorem cmpLays44 [Inhabited RR] (blk off size : Nat) (w : World) : CmpLays Try.prog 44 #[] encRR 2 cfRR blk off size w := by
  intro m os dk _ x y
  have h1 := x.1.isLt
  have h2 := y.1.isLt
  exact closure44 _ _ _ _ _ (by omega) (by omega) (by omega) (by omega)

/-- slices.SortFunc over a row of ranges: sorted by Lo, nothing but the row has turned -/
theorem sortF_any (g off cap : Nat) (xs : List (Int × Int)) (w : World) (hd : Dom xs) (hm : xs.length ≤ 1048576)
    (hc : ∀ i, i < xs.length → w.cell? ⟨g, off + i * 2, none⟩ = some (.int .i32 (xs.getD i (0, 0)).1) ∧ w.cell? ⟨g, off + i * 2 + 1, none⟩ = some (.int .i32 (xs.getD i (0, 0)).2))
    (hf : ∀ j, w.frozen? ⟨g, j, none⟩ = false) (hg : g < w.heap.size) :
    Calls Try.prog 43 #[.slice (some ⟨g, off, none⟩) xs.length cap, .func (.func 44) #[] #[]] w fun e w' => e = .returned (.tuple #[]) ∧
      (∃ ys, ys.Perm xs ∧ ys.Pairwise (fun a b => a.1 ≤ b.1) ∧ PairRow .i32 w' (some ⟨g, off, none⟩) ys) ∧ w.grownBy w' (some g) := by
  letI : Inhabited RR := ⟨RR.zero⟩
  have eg : ∀ args w, (callFunc 44 args).run Try.prog w = .ok (.enter 44 args) w := enters_of Try.func44 (by kernel_rfl) rfl
  have hH : HoldsK encRR 2 w g off (xs.map toF).toArray := by
    intro j hj
    rw [size_flatK] at hj
    simp at hj
    rw [get_flatK _ _ _ _ (by simpa using hj)]
    have hi : j / 2 < xs.length := by omega
    have hx := hd (xs[j / 2]) (List.getElem_mem hi)
    have e1 : ((xs.map toF).toArray)[j / 2]! = toF xs[j / 2] := by simp [hi]
    have e2 : xs.getD (j / 2) (0, 0) = xs[j / 2] := by rw [List.getD_eq_getElem?_getD, List.getElem?_eq_getElem hi]; rfl
    have hd2 := dec_toF hx
    obtain ⟨c1, c2⟩ := hc (j / 2) hi
    rw [e2] at c1 c2
    rw [e1]
    refine ⟨?_, hf _⟩
    have v1 : ((toF xs[j / 2]).1.val : Int) = xs[j / 2].1 := congrArg Prod.fst hd2
    have v2 : ((toF xs[j / 2]).2.val : Int) = xs[j / 2].2 := congrArg Prod.snd hd2
    rcases (show j % 2 = 0 ∨ j % 2 = 1 by omega) with h0 | h0
    · rw [h0, show off + j = off + j / 2 * 2 from by omega, c1]
      simp [encRR, v1]
    · rw [h0, show off + j = off + j / 2 * 2 + 1 from by omega, c2]
      simp [encRR, v2]
  have hcon := AnyQ.slices_SortFunc Try.sortRR 2 Try.isAgg60 Try.sizeOf60 encRR (fun _ => rfl) (fun x v hv => by simp [encRR] at hv; rcases hv with rfl | rfl <;> rfl) cfRR swoRR 44 #[] g off cap (xs.map toF).toArray w eg (cmpLays44 g off _ w) hH hg (by simp; omega)
  change Calls Try.prog 43 _ _ _ at hcon
  have es : (xs.map toF).toArray.size = xs.length := by simp
  rw [es] at hcon
  refine hcon.mono ?_
  rintro e w' ⟨rfl, d', n, os, ⟨hs, _, hp⟩, hso, rfl⟩
  have hsz : d'.size = xs.length := by rw [hs]; simp
  have hp' : d'.toList.Perm (xs.map toF) := by
    have h1 : d'.extract 0 xs.length = d' := by rw [← hsz]; exact Array.extract_size
    have h2 : (xs.map toF).toArray.extract 0 xs.length = (xs.map toF).toArray := by
      have := Array.extract_size (xs := (xs.map toF).toArray); rw [es] at this; exact this
    rw [h1, h2] at hp; simpa using hp
  refine ⟨rfl, ⟨d'.toList.map dec, ?_, ?_, ?_⟩, ?_⟩
  · have := hp'.map dec; rw [map_dec hd] at this; exact this
  · rw [List.pairwise_map, List.pairwise_iff_getElem]
    intro i j hi hj hij
    simp at hi hj
    have := hso i j (Nat.zero_le _) hij (by omega)
    rw [ltRR] at this
    simp [hi, hj] at this
    simp only [dec, Array.getElem_toList]
    omega
  · have hHg : HoldsK encRR 2 (grow (Sort.ahead w n) os) g off (xs.map toF).toArray := holdsK_grow _ _ _ _ g off _ hg (holdsK_ahead _ _ _ _ _ _ _ hH)
    have hHd := holdsK_putRowK _ _ _ g off _ d' hHg (by rw [es]; exact hsz)
    have e : sortWorldK encRR 2 w g off n d' os = putRowK encRR 2 (grow (Sort.ahead w n) os) g off d' := by
      unfold sortWorldK; rw [putRowK_grow _ _ (Sort.ahead w n) _ g off _ hg]
    rw [e]
    intro _
    refine ⟨g, off, rfl, fun i hi => ?_⟩
    simp at hi
    have k0 := (hHd.cell (i := i) (c := 0) hi (by omega)).1
    have k1 := (hHd.cell (i := i) (c := 1) hi (by omega)).1
    have eD : (d'.toList.map dec).getD i (0, 0) = dec d'[i] := by
      rw [List.getD_eq_getElem?_getD, List.getElem?_map]; simp [hi]
    rw [eD]
    simp [hi, encRR] at k0 k1
    simp only [dec]
    exact ⟨k0, k1⟩
  · refine ⟨rfl, rfl, rfl, ?_, fun i hi hne => ?_⟩
    · unfold sortWorldK; simp [putRowK, putRow, mapBlock]
    · unfold sortWorldK
      rw [heap_grow_old _ _ (by simpa [putRowK, putRow, mapBlock] using hi)]
      simp only [putRowK, putRow, mapBlock, Array.getElem?_modify, heap_ahead]
      rw [if_neg (fun e => hne (by rw [e]))]
end Go.Proofs.Qxb6605195a
