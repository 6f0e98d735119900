import Derived.Test.Qxb6605294aSets
set_option maxRecDepth 100000
namespace Go.Proofs.Qxb6605294a
open Go.ChangeShapes Go.WideShapes Go.ChangeAt Go.RowKit
set_option linter.unusedVariables false

/-- links without spare room -/
def Tight2 (w : World) (xs : List (Int × Int)) (v : Value) : Prop := ∃ a, v = .slice a xs.length xs.length ∧ (a = none → xs = []) ∧ ∀ b, a = some b → ∀ j u, (flat2 xs)[j]? = some u → w.cell? (b.add j) = some u
theorem Tight2.tch {X : Nat → Prop} {w w' : World} {xs : List (Int × Int)} {v : Value} (h : Tight2 w xs v) (ht : Tch X w w') (hX : ∀ b, v.ownBlock = some b → ¬ X b) : Tight2 w' xs v := by
  obtain ⟨a, rfl, hn, hc⟩ := h
  refine ⟨a, rfl, hn, fun b hb j u hj => ht.cell (hc b hb j u hj) ?_⟩
  have : (b.add j).block = b.block := by unfold Addr.add; split <;> rfl
  rw [this]
  exact hX b.block (by rw [hb]; rfl)
theorem cell_two_new (w : World) (x y : Value) (t : TypeId) : ∀ j u, [x, y][j]? = some u → (w.alloc (.cells #[x, y] t)).cell? ((⟨w.heap.size, 0, none⟩ : Addr).add j) = some u := by
  intro j u hj
  match j, hj with
  | 0, hj => simp at hj; subst hj; simp [Addr.add]
  | 1, hj => simp at hj; subst hj; simp [Addr.add]
theorem alloc_cell {w : World} {o : Obj} {p : Addr} {v : Value} (h : w.cell? p = some v) : (w.alloc o).drew.cell? p = some v :=
  (Below.cell ((Below.refl w.heap.size w).alloc (Nat.le_refl _) o).drew (cell_lt' h)).trans h
theorem two_one (x y : Int) : ∀ u ∈ [Value.int .i64 x, Value.int .i64 y], u.oneCell' = true := by
  intro u hu
  simp at hu
  rcases hu with rfl | rfl <;> rfl
theorem below_two (w : World) (x y : Value) (t : TypeId) : Below w.heap.size w (w.alloc (.cells #[x, y] t)).drew := ((Below.refl w.heap.size w).alloc (Nat.le_refl _) _).drew
theorem step_grow_link {ops : Array Oper} {o : Oper} {a : Act} {w w0 : World} {K : Act → World → Prop} {Q : Exit → Act → World → Prop} {E : Prop} (hgd : o.guard = none)
    (ho : o.op = Op.call { callee := Callee.builtin Builtin.append, args := #[.tmp 19, .tmp 23], argTypes := #[99, 99] }) (x y : Int) (hw : w = (w0.alloc (.cells #[.int .i64 x, .int .i64 y] 102)).drew) (ao : Option Addr) (xs : List (Int × Int))
    (hs : a.eval (.tmp 19) = .slice ao xs.length xs.length) (hx : a.eval (.tmp 23) = .slice (some ⟨w0.heap.size, 0, none⟩) 1 1) (hn : ao = none → xs = []) (hc : ∀ b, ao = some b → ∀ j u, (flat2 xs)[j]? = some u → w0.cell? (b.add j) = some u) (hl : xs.length ≤ 1048576)
    (hK : ∀ aa cc w1, Hid (Own2 w1 w0.heap.size (xs ++ [(x, y)]) (.slice aa (xs.length + 1) cc)) → Hid (Below w0.heap.size w0 w1) → K (a.put o.dst (.slice aa (xs.length + 1) cc)) w1) :
    if Region.wanted o (yielded ops a.tmps) = true then Oper.wp Try.prog o a w K Q else E := by
  subst hw
  obtain ⟨i0, hi0, hz0, hz1, hz2⟩ := info_parts Try.info102
  refine step_append_grows hgd (.tmp 19) (.tmp 23) 99 ho 102 i0 (.agg #[.int .i64 0, .int .i64 0]) 2 16 Try.underlying99 hi0 hz0 hz1 hz2 rfl (by decide) ao xs.length xs.length (flat2 xs) hs (fun h => by rw [hn h]; exact ⟨rfl, rfl⟩) (flat2_len xs) (fun b hb j u hj => alloc_cell (hc b hb j u hj)) ⟨w0.heap.size, 0, none⟩ 1 1 [.int .i64 x, .int .i64 y] hx rfl (cell_two_new w0 _ _ _) (two_one x y) (by omega) (by unfold maxLen; omega) (by omega) ?_
  intro v' w1 hown hg
  obtain ⟨aa, cc, rfl⟩ := own_slice hown
  have B1 : Below w0.heap.size w0 w1 := (below_two w0 (.int .i64 x) (.int .i64 y) 102).grown hg (below_two w0 (.int .i64 x) (.int .i64 y) 102).size (fun j hj => by cases hj)
  have e : (xs ++ [(x, y)]).length = xs.length + 1 := by simp
  refine hK aa cc w1 ?_ B1
  show w1.ownsRow w0.heap.size 102 2 _ (xs ++ [(x, y)]).length (flat2 (xs ++ [(x, y)]))
  rw [e, flat2_append]
  exact own_mono hown (below_two w0 (.int .i64 x) (.int .i64 y) 102).size
set_option maxHeartbeats 4000000 in
theorem growLink_any (B c h n k : Nat) (fh : Nat → Value) (xs : List (Int × Int)) (x y : Int) (w : World) (hn : n ≤ 1048576) (hk : k < n) (hl : xs.length ≤ 1048576) (hB : B ≤ w.heap.size) (hBh : B ≤ h) (hch : c ≠ h) (hc : w.cell? ⟨c, 0, none⟩ = some (.slice (some ⟨h, 0, none⟩) n n)) (hr : Hid (w.rowIs h 99 n fh)) (ht : Hid (Tight2 w xs (fh k))) :
    Calls Try.prog 48 #[.pointer (some ⟨c, 0, none⟩), .int .i64 k, .int .i64 x, .int .i64 y] w fun e w' => e = .returned (.tuple #[]) ∧ (∃ v, Hid (w'.rowIs h 99 n (fun j => if j = k then v else fh j)) ∧ Hid (Own2 w' w.heap.size (xs ++ [(x, y)]) v)) ∧ Hid (But h w w') ∧ Hid (Below B w w') := by
  obtain ⟨i0, hi0, hz0, hz1, hz2⟩ := info_parts Try.info102
  obtain ⟨a, ea, hnone, hcells⟩ := ht.out
  have q1 := hr.out.cell (i := k) hk
  rw [ea] at q1
  have HN := hid hnone
  have HCe := hid hcells
  have hcl := cell_lt' hc
  have hhl := hr.out.lt
  clear ea hnone hcells ht
  go_enter Try.func48, Try.ntmps48
  go_upto_region 0 with fail
  go_region_law (refine step_grow_link (w0 := w) rfl rfl x y rfl a xs rfl rfl HN.out HCe.out hl ?_; intro aa cc w1 HO BD; (have x0 : w1.cell? ⟨c, 0, none⟩ = some (.slice (some ⟨h, 0, none⟩) n n) := (BD.out.cell (p := ⟨c, 0, none⟩) hcl).trans hc); (have x1 : w1.cell? ⟨h, k, none⟩ = some (.slice a xs.length xs.length) := (BD.out.cell (p := ⟨h, k, none⟩) hhl).trans q1); (have RH := hid (row_below hr.out BD.out)); (have z1 := RH.out.frozen k))
  all_goals
    go_wp2_with fail
    exact ⟨rfl, .tuple #[], by simp [results, Try.results48, go_sem], rfl, ⟨_, RH.out.set k _, own_but HO.out (But.refl h w1).set (fun hb => by have := own_ge HO.out hb; omega)⟩, (But.of_below BD.out).set, (BD.out.mono hB).setCell hBh _⟩
end Go.Proofs.Qxb6605294a
