import Derived.Test.Qxb6605195aWalk3
import Derived.RegionTactic
namespace Go.Proofs.Qxb6605195a
open Go.ChangeShapes Go.WideShapes Go.ChangeAt Go.RowKit Plain
set_option linter.unusedVariables false
set_option maxRecDepth 100000

theorem hid {p : Prop} (h : p) : Hid p := h

/-- the set at block b: its runs M, its bitmap g -/
structure SetAt (w : World) (b : Nat) (M : List (Int × Int)) (g : Nat → Nat) : Prop where
  lt : b < w.heap.size
  runs : ∃ a cap, w.cell? ⟨b, 0, none⟩ = some (.slice a M.length cap) ∧ PairRow .i32 w a M ∧ (a = none → M = [] ∧ cap = 0)
  w0 : w.cell? ⟨b, 1, none⟩ = some (.int .u64 (g 0 : Nat))
  w1 : w.cell? ⟨b, 2, none⟩ = some (.int .u64 (g 1 : Nat))
theorem SetAt.below {w w' : World} {b : Nat} {M : List (Int × Int)} {g : Nat → Nat} (h : SetAt w b M g) (hb : Below w.heap.size w w') : SetAt w' b M g := by
  obtain ⟨hl, ⟨a, cap, h0, hp, hn⟩, h1, h2⟩ := h
  exact ⟨Nat.lt_of_lt_of_le hl hb.size, ⟨a, cap, by rw [hb.cell (p := ⟨b, 0, none⟩) hl]; exact h0, hp.below hb, hn⟩, by rw [hb.cell (p := ⟨b, 1, none⟩) hl]; exact h1, by rw [hb.cell (p := ⟨b, 2, none⟩) hl]; exact h2⟩

theorem one_new_at (w : World) (x : Value) (t : TypeId) (n : Nat) (hn : w.heap.size = n) : ∀ j u, [x][j]? = some u → (w.alloc (.cells #[x] t)).cell? ((⟨n, 0, none⟩ : Addr).add j) = some u := by
  subst hn; exact cell_one_new w x t
theorem one_one (k : IntKind) (x : Int) : ∀ u ∈ [Value.int k x], u.oneCell' = true := by intro u hu; simp at hu; subst hu; rfl
theorem own_push1 {k : IntKind} {w' : World} {B : Nat} {e : TypeId} {v' : Value} {zs : List Int} {x : Int} (h : w'.ownsRow B e 1 v' (zs.length + 1) (zs.map (Value.int k) ++ [.int k x])) :
    w'.ownsRow B e 1 v' (zs ++ [x]).length ((zs ++ [x]).map (Value.int k)) := by
  rw [List.map_append, List.length_append]; exact h

/-- the two rows that ZZSetData fills lie apart -/
def Apart (v1 v2 : Value) : Prop := ∀ j, v1.ownBlock = some j → v2.ownBlock ≠ some j
theorem kept_apart {w w' : World} {B : Nat} {e : TypeId} {v1 v2 : Value} {n : Nat} {xs : List Value} (h : w.ownsRow B e 1 v1 n xs) (hg : w.grownBy w' v2.ownBlock) (ha : Apart v1 v2) : w'.ownsRow B e 1 v1 n xs := by
  refine h.kept hg ?_
  cases hv : v1.ownBlock with
  | none => exact .inl rfl
  | some j => exact .inr fun e => ha j hv e.symm
theorem apart_step {w : World} {B : Nat} {e : TypeId} {v1 v2 v2' : Value} {n : Nat} {xs : List Value} {N : Nat} (h : w.ownsRow B e 1 v1 n xs) (ha : Apart v1 v2) (hl : v2'.ownBlock = v2.ownBlock ∨ v2'.ownBlock = some N) (hN : w.heap.size ≤ N) : Apart v1 v2' := by
  intro j hj
  rcases hl with hl | hl
  · rw [hl]; exact ha j hj
  · rw [hl]
    have := (h.lt j hj).2
    intro e; simp at e; omega
theorem Apart.symm {v1 v2 : Value} (h : Apart v1 v2) : Apart v2 v1 := fun j h2 h1 => h j h1 h2

theorem grown_cell {w w' : World} {row : Option Nat} (h : w.grownBy w' row) {p : Addr} (hp : p.block < w.heap.size) (hr : row ≠ some p.block) : w'.cell? p = w.cell? p :=
  World.cell?_of_block (w := w) (h.block p.block hp (fun e => hr e.symm))
theorem own_ne {w : World} {B : Nat} {e : TypeId} {size n : Nat} {v : Value} {xs : List Value} (h : w.ownsRow B e size v n xs) {j : Nat} (hj : w.heap.size ≤ j) : v.ownBlock ≠ some j := by
  intro e; have := (h.lt j e).2; omega

/-- what ZZSetData hands back -/
def RetData (M : List (Int × Int)) (g : Nat → Nat) (e : Ending) (w' : World) : Prop :=
  ∃ a1 c1 a2 c2, e = .returned (.tuple #[.slice a1 M.length c1, .slice a2 M.length c2, .agg #[.int .u64 (g 0 : Nat), .int .u64 (g 1 : Nat)]]) ∧ IntRow .i32 w' a1 (M.map Prod.fst) ∧ IntRow .i32 w' a2 (M.map Prod.snd)

set_option maxHeartbeats 2000000 in
theorem data_any (b : Nat) (M : List (Int × Int)) (g : Nat → Nat) (w : World) (hm : M.length ≤ 1048576) (hs : SetAt w b M g) :
    Calls Try.prog 12 #[.pointer (some ⟨b, 0, none⟩)] w fun e w' => RetData M g e w' ∧ Below w.heap.size w w' := by
  obtain ⟨i0, hi0, hz0, hz1, hz2⟩ := info_parts Try.info21
  obtain ⟨hbl, ⟨a, cap, k0, hp, _⟩, k1, k2⟩ := hs
  have HP : Hid (PairRow .i32 w a M) := hp
  have K0 : Hid (w.cell? ⟨b, 0, none⟩ = some (.slice a M.length cap)) := k0
  have K1 : Hid (w.cell? ⟨b, 1, none⟩ = some (.int .u64 (g 0 : Nat))) := k1
  have K2 : Hid (w.cell? ⟨b, 2, none⟩ = some (.int .u64 (g 1 : Nat))) := k2
  clear hp k1 k2
  go_enter Try.func12, Try.ntmps12
  go_wp2_with fail
  clear k0
  go_loopw [2, 3, 12] (fun v1 v2 i wr => ∃ k : Nat, k ≤ M.length ∧ i = .int .i64 k ∧ Hid (wr.ownsRow (w.heap.size + 1) 21 1 v1 ((M.take k).map Prod.fst).length (((M.take k).map Prod.fst).map (Value.int .i32))) ∧ Hid (wr.ownsRow (w.heap.size + 1) 21 1 v2 ((M.take k).map Prod.snd).length (((M.take k).map Prod.snd).map (Value.int .i32))) ∧ Hid (Apart v1 v2) ∧
      Hid (Below (w.heap.size + 1) (w.alloc (.cells #[.int .u64 0, .int .u64 0] 31)) wr)) (fun _ _ i _ => M.length - (intOf i).toNat)
  case atStart => exact ⟨0, Nat.zero_le _, rfl, World.ownsRow_nil _ _ _ _, World.ownsRow_nil _ _ _ _, fun j h => by simp [Value.ownBlock] at h, Below.refl _ _⟩
  case round =>
    obtain ⟨k, hk, rfl, HO1, HO2, HA, HB⟩ := hrel
    have hsz : w.heap.size + 1 ≤ wr.heap.size := by have := HB.out.size; simpa using this
    have HW : Hid (Below w.heap.size w wr) := ((Below.refl _ _).alloc (Nat.le_refl _) _).trans (HB.out.mono (by omega))
    by_cases hlt : k < M.length
    · obtain ⟨b1, off, lo, hi, rfl, d1, d2, hb1, HX, HM⟩ := HP.out.get HW.out hlt
      have hl1 : ((M.take k).map Prod.fst).length ≤ 1048575 := by simp; omega
      have hl2 : ((M.take k).map Prod.snd).length ≤ 1048575 := by simp; omega
      go_wp2_with (first
        | (at_builtin; refine wpList_append_own_at _ rfl (.tmp 16) (.tmp 19) 29 rfl (w.heap.size + 1) 21 i0 (.int .i32 0) 1 4 Try.underlying29 hi0 hz0 hz1 hz2 rfl (by decide) _ _ _ rfl ((HO1.out.alloc _).alloc _) ⟨wr.heap.size + 1, 0, none⟩ 1 1 [.int .i32 lo] rfl rfl (one_new_at _ _ _ _ (by simp)) (one_one _ _) (by unfold maxLen; omega) (by omega) (by simp; omega) ?_; intro v1 w1 hown1 hgrow1 hnil1 hloc1; (have hsz1 : wr.heap.size + 1 < w1.heap.size := by have := hgrow1.size; simp at this; omega); (have cr : w1.cell? ⟨wr.heap.size, 1, none⟩ = some (.int .i32 hi) := by rw [grown_cell hgrow1 (p := ⟨wr.heap.size, 1, none⟩) (by show wr.heap.size < _; simp; omega) (own_ne HO1.out (Nat.le_refl _))]; simp); (have HG1 := hid hgrow1); (have HW1 := hid hown1); (have HL1 := hid hloc1); clear hown1 hgrow1 hnil1 hloc1)
        | (at_builtin; refine wpList_append_own_at _ rfl (.tmp 21) (.tmp 24) 29 rfl (w.heap.size + 1) 21 i0 (.int .i32 0) 1 4 Try.underlying29 hi0 hz0 hz1 hz2 rfl (by decide) _ _ _ rfl ((kept_apart ((HO2.out.alloc _).alloc _) HG1.out (Apart.symm HA.out)).alloc _) ⟨w1.heap.size, 0, none⟩ 1 1 [.int .i32 hi] rfl rfl (one_new_at _ _ _ _ (by simp)) (one_one _ _) (by unfold maxLen; omega) (by omega) (by simp; omega) ?_; intro v2 w2 hown2 hgrow2 hnil2 hloc2))
      have A1 := apart_step ((HO2.out.alloc _).alloc _) (Apart.symm HA.out) HL1.out (Nat.le_refl _)
      have O2 := kept_apart ((HO2.out.alloc _).alloc _) HG1.out (Apart.symm HA.out)
      have A2 := apart_step (HW1.out.alloc (.cells #[.int .i32 hi] 21)) A1.symm hloc2 (Nat.le_refl _)
      have O1 := kept_apart (HW1.out.alloc (.cells #[.int .i32 hi] 21)) hgrow2 A1.symm
      have HB1 := below_push ((HB.out.alloc hsz _).alloc (by simp; omega) _) ((HO1.out.alloc _).alloc _) HG1.out (by simp; omega)
      have HB2 := below_push (HB1.alloc (by omega) _) (O2.alloc _) hgrow2 (by simp; omega)
      have P1 : Hid (w2.ownsRow (w.heap.size + 1) 21 1 v1 ((M.take (k + 1)).map Prod.fst).length (((M.take (k + 1)).map Prod.fst).map (Value.int .i32))) := by
        rw [take_snoc HX.out, List.map_append]; exact own_push1 O1
      have P2 : Hid (w2.ownsRow (w.heap.size + 1) 21 1 v2 ((M.take (k + 1)).map Prod.snd).length (((M.take (k + 1)).map Prod.snd).map (Value.int .i32))) := by
        rw [take_snoc HX.out, List.map_append]; exact own_push1 hown2
      go_roundw
      case rel => exact ⟨k + 1, hlt, by go_num, P1, P2, A2, HB2⟩
      case measure => simp [intOf]; omega
    · have hk2 : k = M.length := by omega
      subst hk2
      rw [List.take_length] at HO1 HO2
      have F1 := ownsRow_setCell_below (ownsRow_setCell_below HO1.out (a := ⟨w.heap.size, 0, none⟩) (by show w.heap.size < _; omega) (.int .u64 (g 0 : Nat))) (a := ⟨w.heap.size, 1, none⟩) (by show w.heap.size < _; omega) (.int .u64 (g 1 : Nat))
      have F2 := ownsRow_setCell_below (ownsRow_setCell_below HO2.out (a := ⟨w.heap.size, 0, none⟩) (by show w.heap.size < _; omega) (.int .u64 (g 0 : Nat))) (a := ⟨w.heap.size, 1, none⟩) (by show w.heap.size < _; omega) (.int .u64 (g 1 : Nat))
      obtain ⟨a1, c1, e1, I1⟩ := intRow_own (zs := M.map Prod.fst) F1
      obtain ⟨a2, c2, e2, I2⟩ := intRow_own (zs := M.map Prod.snd) F2
      subst e1 e2
      have J1 := hid I1
      have J2 := hid I2
      have JB : Hid (Below w.heap.size w ((wr.setCell ⟨w.heap.size, 0, none⟩ (.int .u64 (g 0 : Nat))).setCell ⟨w.heap.size, 1, none⟩ (.int .u64 (g 1 : Nat)))) := (HW.out.setCell (Nat.le_refl _) _).setCell (Nat.le_refl _) _
      have q1 : wr.cell? ⟨b, 1, none⟩ = some (.int .u64 (g 0 : Nat)) := by rw [HW.out.cell (p := ⟨b, 1, none⟩) hbl]; exact K1.out
      have q2 : wr.cell? ⟨b, 2, none⟩ = some (.int .u64 (g 1 : Nat)) := by rw [HW.out.cell (p := ⟨b, 2, none⟩) hbl]; exact K2.out
      have r0 : wr.cell? ⟨w.heap.size, 0, none⟩ = some (.int .u64 0) := by rw [HB.out.cell (p := ⟨w.heap.size, 0, none⟩) (by show w.heap.size < _; omega)]; simp
      have r1 : wr.cell? ⟨w.heap.size, 1, none⟩ = some (.int .u64 0) := by rw [HB.out.cell (p := ⟨w.heap.size, 1, none⟩) (by show w.heap.size < _; omega)]; simp
      have f0 : wr.frozen? ⟨w.heap.size, 0, none⟩ = false := by rw [HB.out.frozen (p := ⟨w.heap.size, 0, none⟩) (by show w.heap.size < _; omega)]; simp
      have f1 : wr.frozen? ⟨w.heap.size, 1, none⟩ = false := by rw [HB.out.frozen (p := ⟨w.heap.size, 1, none⟩) (by show w.heap.size < _; omega)]; simp
      clear I1 I2 HO1 HO2 HA HB F1 F2
      go_wp2_with fail
      go_region
      all_goals
        go_wp2_with fail
        refine bodyPost_ret (v := .tuple #[.slice a1 M.length c1, .slice a2 M.length c2, .agg #[.int .u64 (g 0 : Nat), .int .u64 (g 1 : Nat)]]) (by simp [results, Try.results12, go_sem, r0, r1]) rfl ⟨⟨a1, c1, a2, c2, rfl, ?_, ?_⟩, ?_⟩
        · exact J1.out
        · exact J2.out
        · exact JB.out.drew
end Go.Proofs.Qxb6605195a
