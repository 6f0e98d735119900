import Derived.Test.Qxb6605195aClone
namespace Go.Proofs.Qxb6605195a
open Go.ChangeShapes Go.WideShapes Go.ChangeAt Go.RowKit Plain
set_option linter.unusedVariables false
set_option maxRecDepth 100000

/-! ### the node in memory -/
inductive NodeAt (w : World) : Option Addr → Tr → Prop
  | node (n : Nat) (op mn mx : Int) (set : List (Int × Int)) (sb : Nat) (M : List (Int × Int)) (sg : Nat → Nat) (subs : List Tr) (ua : Option Addr) (uc : Nat) (ps : Nat → Option Addr)
      (h0 : w.cell? ⟨n, 0, none⟩ = some (.int .u8 op)) (h1 : w.cell? ⟨n, 1, none⟩ = some (.pointer (some ⟨sb, 0, none⟩))) (g : SetFor w sb M sg set)
      (h2 : w.cell? ⟨n, 2, none⟩ = some (.slice ua subs.length uc)) (h3 : w.cell? ⟨n, 3, none⟩ = some (.int .i64 mn)) (h4 : w.cell? ⟨n, 4, none⟩ = some (.int .i64 mx))
      (b0 : 0 ≤ op ∧ op ≤ 255) (b2 : subs.length ≤ 9223372036854775807) (b3 : -9223372036854775808 ≤ mn ∧ mn ≤ 9223372036854775807) (b4 : -9223372036854775808 ≤ mx ∧ mx ≤ 9223372036854775807)
      (hp : 0 < subs.length → ∃ ub uo, ua = some ⟨ub, uo, none⟩ ∧ ∀ i, i < subs.length → w.cell? ⟨ub, uo + i, none⟩ = some (.pointer (ps i)))
      (hs : ∀ i, i < subs.length → NodeAt w (ps i) (kid subs i)) : NodeAt w (some ⟨n, 0, none⟩) (.node op set subs mn mx)
theorem NodeAt.bel {w w' : World} (hb : Below w.heap.size w w') {a : Option Addr} {t : Tr} (h : NodeAt w a t) : NodeAt w' a t := by
  induction h with
  | node n op mn mx set sb M sg subs ua uc ps h0 h1 g h2 h3 h4 b0 b2 b3 b4 hp hs ih =>
    refine .node n op mn mx set sb M sg subs ua uc ps ?_ ?_ (g.below hb) ?_ ?_ ?_ b0 b2 b3 b4 ?_ ih
    · rw [hb.cell (cell_lt' h0)]; exact h0
    · rw [hb.cell (cell_lt' h1)]; exact h1
    · rw [hb.cell (cell_lt' h2)]; exact h2
    · rw [hb.cell (cell_lt' h3)]; exact h3
    · rw [hb.cell (cell_lt' h4)]; exact h4
    · intro h
      obtain ⟨ub, uo, e, hc⟩ := hp h
      exact ⟨ub, uo, e, fun i hi => by rw [hb.cell (cell_lt' (hc i hi))]; exact hc i hi⟩

/-- ZZNode: one new block -/
def NodeCells (w' : World) (n : Nat) (op : Int) (p ua : Option Addr) (un uc : Nat) (mn mx : Int) : Prop :=
  w'.cell? ⟨n, 0, none⟩ = some (.int .u8 op) ∧ w'.cell? ⟨n, 1, none⟩ = some (.pointer p) ∧ w'.cell? ⟨n, 2, none⟩ = some (.slice ua un uc) ∧ w'.cell? ⟨n, 3, none⟩ = some (.int .i64 mn) ∧ w'.cell? ⟨n, 4, none⟩ = some (.int .i64 mx)
theorem znode_any (op : Int) (p : Option Addr) (ua : Option Addr) (un uc : Nat) (mn mx : Int) (w : World) :
    Calls Try.prog 38 #[.int .u8 op, .pointer p, .slice ua un uc, .int .i64 mn, .int .i64 mx] w fun e w' => (e = .returned (.pointer (some ⟨w.heap.size, 0, none⟩)) ∧ Hid (NodeCells w' w.heap.size op p ua un uc mn mx)) ∧ Hid (Below w.heap.size w w') := by
  go_enter Try.func38, Try.ntmps38
  go_wp2_with fail
  go_ret
  refine ⟨⟨rfl, ?_⟩, (Below.refl _ _).alloc (Nat.le_refl _) _⟩
  exact ⟨by simp [go_sem], by simp [go_sem], by simp [go_sem], by simp [go_sem], by simp [go_sem]⟩
end Go.Proofs.Qxb6605195a
