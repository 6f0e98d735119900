import Derived.Test.Qxb6605294aMat
set_option maxRecDepth 100000
namespace Go.Proofs.Qxb6605294a
open Go.ChangeShapes Go.WideShapes Go.ChangeAt Go.RowKit
set_option linter.unusedVariables false

set_option maxHeartbeats 1000000 in
theorem setPool_any (c P n i : Nat) (fP : Nat → Value) (v : Int) (w : World) (hn : n ≤ 1048576) (hi : i < n) (hc : w.cell? ⟨c, 7, none⟩ = some (.slice (some ⟨P, 0, none⟩) n n)) (hp : Hid (w.rowIs P 100 n fP)) :
    Calls Try.prog 46 #[.pointer (some ⟨c, 0, none⟩), .int .i64 i, .int .i64 v] w fun e w' => e = .returned (.tuple #[]) ∧ w' = w.setCell ⟨P, i, none⟩ (.int .i64 v) := by
  have d1 := hp.out.cell (i := i) hi
  have z1 := hp.out.frozen i
  go_enter Try.func46, Try.ntmps46
  go_wp2_with fail
  exact ⟨rfl, .tuple #[], by simp [results, Try.results46, go_sem], rfl, rfl⟩
set_option maxHeartbeats 1000000 in
theorem setLink_any (c h n p i ub off Lp : Nat) (x y x0 y0 : Int) (w : World) (hn : n ≤ 1048576) (hl : Lp ≤ 1048576) (hp : p < n) (hi : i < Lp) (hc : w.cell? ⟨c, 0, none⟩ = some (.slice (some ⟨h, 0, none⟩) n n)) (hh : w.cell? ⟨h, p, none⟩ = some (.slice (some ⟨ub, off, none⟩) Lp Lp))
    (q0 : w.cell? ⟨ub, off + i * 2, none⟩ = some (.int .i64 x0)) (q1 : w.cell? ⟨ub, off + i * 2 + 1, none⟩ = some (.int .i64 y0)) (z0 : w.frozen? ⟨ub, off + i * 2, none⟩ = false) (z1 : w.frozen? ⟨ub, off + i * 2 + 1, none⟩ = false) :
    Calls Try.prog 44 #[.pointer (some ⟨c, 0, none⟩), .int .i64 p, .int .i64 i, .int .i64 x, .int .i64 y] w fun e w' => e = .returned (.tuple #[]) ∧ w' = (w.setCell ⟨ub, off + i * 2, none⟩ (.int .i64 x)).setCell ⟨ub, off + i * 2 + 1, none⟩ (.int .i64 y) := by
  go_enter Try.func44, Try.ntmps44
  go_wp2_with fail
  exact ⟨rfl, .tuple #[], by simp [results, Try.results44, go_sem], rfl, rfl⟩
set_option maxHeartbeats 1000000 in
theorem setFact_any (B c F n : Nat) (D : DU) (k : Int × Int) (v : Int) (w : World) (hk : Hid (wfK k)) (hv : Hid ((Lit.int .i64 v).wf = true)) (hn : n ≤ 100000000) (hB : B ≤ w.heap.size) (hBF : B ≤ F) (hg : w.cell? ⟨c, 4, none⟩ = some (.map (some F))) (hf : Hid (FM w F n D)) :
    Calls Try.prog 47 #[.pointer (some ⟨c, 0, none⟩), kv k, .int .i64 v] w fun e w' => e = .returned (.tuple #[]) ∧ Hid (FM w' F (n + 1) (D.put (kl k) (.lit (.int .i64 v)))) ∧ Hid (But F w w') ∧ Hid (Below B w w') := by
  have lg := cell_lt' hg
  have hkey := kl_ok hk.out
  obtain ⟨k1, k2⟩ := k
  have W0 := hid (show (w.alloc (.cells #[.int .i64 k1, .int .i64 k2] 73)).cell? ⟨w.heap.size, 0, none⟩ = some (.int .i64 k1) ∧ (w.alloc (.cells #[.int .i64 k1, .int .i64 k2] 73)).cell? ⟨w.heap.size, 1, none⟩ = some (.int .i64 k2) by constructor <;> simp [go_sem])
  have B1 := hid ((Below.refl w.heap.size w).alloc (Nat.le_refl _) (.cells #[.int .i64 k1, .int .i64 k2] 73))
  have BB := hid ((Below.refl B w).alloc hB (.cells #[.int .i64 k1, .int .i64 k2] 73))
  unfold kv at hkey ⊢
  dsimp only at hkey ⊢
  go_enter Try.func47, Try.ntmps47
  go_upto_region 1 with fail
  obtain ⟨w1, hw1⟩ : ∃ x, x = w.alloc (.cells #[.int .i64 k1, .int .i64 k2] 73) := ⟨_, rfl⟩
  rw [← hw1] at W0 B1 BB ⊢
  clear hw1
  obtain ⟨d0, d1⟩ := W0.out
  have hg1 := (B1.out.cell (p := ⟨c, 4, none⟩) lg).trans hg
  obtain ⟨wC, hup, hFC, hgC⟩ := (hf.out.below B1.out.drew).update keyed73 Try.underlying75 (by unfold maxLen; omega) hkey (plainElem_int Try.underlying3 hv.out)
  have HFC := hid hFC
  have HBut : Hid (But F w wC) := (But.of_below B1.out).drew.grown hgC (fun j hj => .inl (by cases hj; rfl))
  have HBel : Hid (Below B w wC) := BB.out.drew.grown hgC (by have := BB.out.size; show B ≤ w1.heap.size; omega) (fun j hj => by cases hj; exact hBF)
  clear hFC hgC hf B1 BB
  go_region
  all_goals
    go_wp2_with fail
    exact ⟨rfl, .tuple #[], by simp [results, Try.results47, go_sem], rfl, HFC, HBut, HBel⟩
end Go.Proofs.Qxb6605294a
