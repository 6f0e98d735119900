import Derived.Test.Qxb6605294aState2
set_option maxRecDepth 100000
namespace Go.Proofs.Qxb6605294a
open Go.ChangeShapes Go.WideShapes Go.ChangeAt Go.RowKit
set_option linter.unusedVariables false

theorem cut_cell2 {w : World} {S i j b : Nat} {pss : List (List (Int × Int))} {v : Value} (hv : Own2 w S pss.flatten v) (hb : v.ownBlock = some b) (hi : i < pss.length) (hj : j < lenf pss i) : w.cell? ⟨b, offs pss i * 2 + j * 2, none⟩ = some (.int .i64 (valp pss i j).1) ∧ w.cell? ⟨b, offs pss i * 2 + j * 2 + 1, none⟩ = some (.int .i64 (valp pss i j).2) := by
  obtain ⟨a1, c1, e1, RF, l1, _⟩ := pairRow_own hv
  have hlen := flat_lt hi hj
  obtain ⟨b', off, e2, hcc⟩ := RF (by omega)
  subst e2
  rw [e1] at hb
  simp only [Value.ownBlock, Option.some.injEq] at hb
  subst hb
  have h2 := hcc _ hlen
  rw [flat_at (0, 0) pss i j hi hj] at h2
  have hoff : off = 0 := by
    obtain ⟨_, ⟨hv', _⟩ | ⟨g', cap, cur, hv', _⟩⟩ := hv
    · rw [e1] at hv'; cases hv'
    · rw [e1] at hv'; cases hv'; rfl
  rw [hoff, Nat.zero_add, Nat.add_mul] at h2
  exact h2
theorem hmat_cut {w : World} {S h : Nat} {pss : List (List (Int × Int))} {fh : Nat → Value} {v : Value} (hr : w.rowIs h 99 pss.length fh) (hv : Own2 w S pss.flatten v) (hc : CutAt 2 v pss pss.length fh) :
    ∃ ub sz, HMat w h pss.length fh (lenf pss) (offs pss) ub sz (valp pss) ∧ ∀ i, i < pss.length → 0 < lenf pss i → v.ownBlock = some ub := by
  have hblk : ∀ i, i < pss.length → 0 < lenf pss i → ∃ ab, v.ownBlock = some ab ∧ fh i = .slice (some ⟨ab, offs pss i * 2, none⟩) (lenf pss i) (lenf pss i) := by
    intro i hi h0
    obtain ⟨a, ha, ⟨_, _, hx⟩ | ⟨ab, p, hab, rfl, hp⟩⟩ := hc i hi
    · unfold lenf at h0; rw [hx] at h0; simp at h0
    · refine ⟨ab, hab, ?_⟩
      rcases hp with hp | hp
      · rw [ha, hp]
      · unfold lenf at h0; rw [hp] at h0; simp at h0
  have hz0 : ∀ i a, i < pss.length → fh i = .slice a (lenf pss i) (lenf pss i) → a = none → lenf pss i = 0 := by
    intro i a hi he hn
    rcases Nat.eq_zero_or_pos (lenf pss i) with h0 | h0
    · exact h0
    · obtain ⟨ab, _, h2⟩ := hblk i hi h0
      rw [he, hn] at h2
      injection h2 with h2; cases h2
  cases hb : v.ownBlock with
  | none =>
    have hz : ∀ i, i < pss.length → lenf pss i = 0 := fun i hi => by
      rcases Nat.eq_zero_or_pos (lenf pss i) with h0 | h0
      · exact h0
      · obtain ⟨ab, h1, _⟩ := hblk i hi h0
        rw [hb] at h1; cases h1
    refine ⟨0, 0, ⟨hr, fun i hi => ?_, fun i j hi hj => ?_, fun i hi h0 => ?_, fun i j i' j' hi _ hj => ?_⟩, fun i hi h0 => ?_⟩
    · obtain ⟨a, ha, _⟩ := hc i hi
      exact ⟨a, ha, fun h0 => absurd h0 (by have := hz i hi; omega), fun _ => hz i hi⟩
    all_goals have := hz i hi; omega
  | some ab =>
    obtain ⟨sz, g, hg⟩ := own_row hv hb
    refine ⟨ab, sz, ⟨hr, fun i hi => ?_, fun i j hi hj => cut_cell2 hv hb hi hj, fun i hi h0 => ⟨g, hg⟩, fun i j i' j' hi hi' hj hj' he => offs_inj pss hi hi' hj hj' he⟩, fun i hi h0 => rfl⟩
    obtain ⟨a, ha, _⟩ := hc i hi
    refine ⟨a, ha, fun h0 => ?_, fun hn => hz0 i a hi ha hn⟩
    obtain ⟨ab', h1, h2⟩ := hblk i hi h0
    rw [hb] at h1; cases h1
    rw [ha] at h2
    injection h2
/-- what part of the clone a block belongs to -/
def clsF (B c h F p P q : Nat) (v6 : Value) (S0 S1 R1 S2 R2 S3 R3 S4 S5 b : Nat) : Nat :=
  if S5 ≤ b then 0 else if b < B then 0 else if b = c then 15 else if b = h then 10 else if b = F then 9 else if b = p then 14 else if b = P then 8 else if b = q then 7 else if v6.ownBlock = some b then 6
  else if b < S0 then 0 else if b < S1 then 1 else if b = R1 then 11 else if b < S2 then 2 else if b = R2 then 12 else if b < S3 then 3 else if b = R3 then 13 else if b < S4 then 4 else if b < S5 then 5 else 0
structure Cls (cls : Nat → Nat) (S5 c h F p P q : Nat) (v6 u7 v1 v2 v3 : Value) (R1 R2 R3 : Nat) (fp : Nat → Value) (n : Nat) : Prop where
  c : cls c = 15
  h : cls h = 10
  F : cls F = 9
  p : cls p = 14
  P : cls P = 8
  q : cls q = 7
  b6 : ∀ b, v6.ownBlock = some b → cls b = 6
  ub : ∀ b, u7.ownBlock = some b → cls b = 1
  a1 : ∀ b, v1.ownBlock = some b → cls b = 2
  a2 : ∀ b, v2.ownBlock = some b → cls b = 3
  a3 : ∀ b, v3.ownBlock = some b → cls b = 4
  R1 : cls R1 = 11
  R2 : cls R2 = 12
  R3 : cls R3 = 13
  own : ∀ i b, i < n → (fp i).ownBlock = some b → cls b = 5
  new : ∀ b, S5 ≤ b → cls b = 0
section
variable {w : World} {B c n : Nat} {pss : List (List (Int × Int))} {hb co cb pb : List (List Int)} {D : DU} {pl : List Bool} {h F p P q rb : Nat} {v6 u7 : Value} {fh fp : Nat → Value} {k : Nat} {R1 R2 R3 : Nat} {f1 f2 f3 : Nat → Value} {v1 v2 v3 : Value} {S0 S1 S2 S3 S4 : Nat}
theorem CloneAt.cls (H : CloneAt w B c n pss hb co cb pb D pl h F p P q rb v6 u7 fh fp k R1 R2 R3 f1 f2 f3 v1 v2 v3 S0 S1 S2 S3 S4) :
    Cls (clsF B c h F p P q v6 S0 S1 R1 S2 R2 S3 R3 S4 w.heap.size) w.heap.size c h F p P q v6 u7 v1 v2 v3 R1 R2 R3 fp n := by
  have lc := H.rc.lt
  have lh := H.bun.rh.lt
  have lF := H.bun.rF.lt
  have lp := H.bun.rp.lt
  have lP := H.bun.rP.lt
  have lq := H.bun.rq.lt
  obtain ⟨bc0, bc1⟩ := H.bc
  obtain ⟨bh0, bh1⟩ := H.bun.bh
  obtain ⟨bF0, bF1⟩ := H.bun.bF
  obtain ⟨bp0, bp1⟩ := H.bun.bp
  obtain ⟨bP0, bP1⟩ := H.bun.bP
  obtain ⟨bq0, bq1⟩ := H.bun.bq
  have nch : c ≠ h := rowIs_ne H.rc H.bun.rh (by decide)
  have ncF : c ≠ F := Ne.symm (fm_ne H.bun.rF H.rc)
  have ncp : c ≠ p := rowIs_ne H.rc H.bun.rp (by decide)
  have ncP : c ≠ P := rowIs_ne H.rc H.bun.rP (by decide)
  have ncq : c ≠ q := rowIs_ne H.rc H.bun.rq (by decide)
  have nhF : h ≠ F := Ne.symm (fm_ne H.bun.rF H.bun.rh)
  have nhp : h ≠ p := rowIs_ne H.bun.rh H.bun.rp (by decide)
  have nhP : h ≠ P := rowIs_ne H.bun.rh H.bun.rP (by decide)
  have nhq : h ≠ q := rowIs_ne H.bun.rh H.bun.rq (by decide)
  have nFp : F ≠ p := fm_ne H.bun.rF H.bun.rp
  have nFP : F ≠ P := fm_ne H.bun.rF H.bun.rP
  have nFq : F ≠ q := fm_ne H.bun.rF H.bun.rq
  have npP : p ≠ P := rowIs_ne H.bun.rp H.bun.rP (by decide)
  have npq : p ≠ q := rowIs_ne H.bun.rp H.bun.rq (by decide)
  have nPq : P ≠ q := rowIs_ne H.bun.rP H.bun.rq (by decide)
  have s01 := H.s01
  have s12 := H.s12
  have s23 := H.s23
  have s34 := H.s34
  have r1a := H.l1.lo
  have r1b := H.l1.hi
  have r1c := H.l1.row.lt
  have r2a := H.l2.lo
  have r2b := H.l2.hi
  have r2c := H.l2.row.lt
  have r3a := H.l3.lo
  have r3b := H.l3.hi
  have r3c := H.l3.row.lt
  have h6 : ∀ b, S0 ≤ b → ¬ v6.ownBlock = some b := fun b hb e => by have := H.bun.b6 b e; omega
  refine ⟨?_, ?_, ?_, ?_, ?_, ?_, fun b hb => ?_, fun b hb => ?_, fun b hb => ?_, fun b hb => ?_, fun b hb => ?_, ?_, ?_, ?_, fun i b hi hb => ?_, fun b hb => by unfold clsF; rw [if_pos hb]⟩
  · unfold clsF; rw [if_neg (by omega), if_neg (by omega), if_pos rfl]
  · unfold clsF; rw [if_neg (by omega), if_neg (by omega), if_neg (by omega), if_pos rfl]
  · unfold clsF; rw [if_neg (by omega), if_neg (by omega), if_neg (by omega), if_neg (by omega), if_pos rfl]
  · unfold clsF; rw [if_neg (by omega), if_neg (by omega), if_neg (by omega), if_neg (by omega), if_neg (by omega), if_pos rfl]
  · unfold clsF; rw [if_neg (by omega), if_neg (by omega), if_neg (by omega), if_neg (by omega), if_neg (by omega), if_neg (by omega), if_pos rfl]
  · unfold clsF; rw [if_neg (by omega), if_neg (by omega), if_neg (by omega), if_neg (by omega), if_neg (by omega), if_neg (by omega), if_neg (by omega), if_pos rfl]
  · obtain ⟨mm, gg, hg⟩ := own_row H.bun.r6 hb
    have l6 := hg.lt
    have g6 := own_ge H.bun.r6 hb
    have d1 := rowIs_ne hg H.rc (by decide)
    have d2 := rowIs_ne hg H.bun.rh (by decide)
    have d3 := Ne.symm (fm_ne H.bun.rF hg)
    have d4 := rowIs_ne hg H.bun.rp (by decide)
    have d5 := rowIs_ne hg H.bun.rP (by decide)
    have d6 := H.bun.n6 b hb
    unfold clsF; rw [if_neg (by omega), if_neg (by omega), if_neg (by omega), if_neg (by omega), if_neg (by omega), if_neg (by omega), if_neg (by omega), if_neg (by omega), if_pos hb]
  · have g1 := own_ge H.links hb
    have g2 := own_lt H.links hb
    have g3 := H.top7 b hb
    unfold clsF; rw [if_neg (by omega), if_neg (by omega), if_neg (by omega), if_neg (by omega), if_neg (by omega), if_neg (by omega), if_neg (by omega), if_neg (by omega), if_neg (h6 _ (by omega)), if_neg (by omega), if_pos (by omega)]
  · have g1 := own_ge H.l1.own hb
    have g2 := own_lt H.l1.own hb
    have g3 := H.l1.top b hb
    obtain ⟨mm, gg, hg⟩ := own_row H.l1.own hb
    have g4 := rowIs_ne hg H.l1.row (by decide)
    unfold clsF; rw [if_neg (by omega), if_neg (by omega), if_neg (by omega), if_neg (by omega), if_neg (by omega), if_neg (by omega), if_neg (by omega), if_neg (by omega), if_neg (h6 _ (by omega)), if_neg (by omega), if_neg (by omega), if_neg (by omega), if_pos (by omega)]
  · have g1 := own_ge H.l2.own hb
    have g2 := own_lt H.l2.own hb
    have g3 := H.l2.top b hb
    obtain ⟨mm, gg, hg⟩ := own_row H.l2.own hb
    have g4 := rowIs_ne hg H.l2.row (by decide)
    unfold clsF; rw [if_neg (by omega), if_neg (by omega), if_neg (by omega), if_neg (by omega), if_neg (by omega), if_neg (by omega), if_neg (by omega), if_neg (by omega), if_neg (h6 _ (by omega)), if_neg (by omega), if_neg (by omega), if_neg (by omega), if_neg (by omega), if_neg (by omega), if_pos (by omega)]
  · have g1 := own_ge H.l3.own hb
    have g2 := own_lt H.l3.own hb
    have g3 := H.l3.top b hb
    obtain ⟨mm, gg, hg⟩ := own_row H.l3.own hb
    have g4 := rowIs_ne hg H.l3.row (by decide)
    unfold clsF; rw [if_neg (by omega), if_neg (by omega), if_neg (by omega), if_neg (by omega), if_neg (by omega), if_neg (by omega), if_neg (by omega), if_neg (by omega), if_neg (h6 _ (by omega)), if_neg (by omega), if_neg (by omega), if_neg (by omega), if_neg (by omega), if_neg (by omega), if_neg (by omega), if_neg (by omega), if_pos (by omega)]
  · unfold clsF; rw [if_neg (by omega), if_neg (by omega), if_neg (by omega), if_neg (by omega), if_neg (by omega), if_neg (by omega), if_neg (by omega), if_neg (by omega), if_neg (h6 _ (by omega)), if_neg (by omega), if_neg (by omega), if_pos rfl]
  · unfold clsF; rw [if_neg (by omega), if_neg (by omega), if_neg (by omega), if_neg (by omega), if_neg (by omega), if_neg (by omega), if_neg (by omega), if_neg (by omega), if_neg (h6 _ (by omega)), if_neg (by omega), if_neg (by omega), if_neg (by omega), if_neg (by omega), if_pos rfl]
  · unfold clsF; rw [if_neg (by omega), if_neg (by omega), if_neg (by omega), if_neg (by omega), if_neg (by omega), if_neg (by omega), if_neg (by omega), if_neg (by omega), if_neg (h6 _ (by omega)), if_neg (by omega), if_neg (by omega), if_neg (by omega), if_neg (by omega), if_neg (by omega), if_neg (by omega), if_pos rfl]
  · have ho := H.pool.each hi
    have g1 := own_ge ho hb
    have g2 := own_lt ho hb
    unfold clsF; rw [if_neg (by omega), if_neg (by omega), if_neg (by omega), if_neg (by omega), if_neg (by omega), if_neg (by omega), if_neg (by omega), if_neg (by omega), if_neg (h6 _ (by omega)), if_neg (by omega), if_neg (by omega), if_neg (by omega), if_neg (by omega), if_neg (by omega), if_neg (by omega), if_neg (by omega), if_neg (by omega), if_pos (by omega)]
theorem CloneAt.hmat (H : CloneAt w B c n pss hb co cb pb D pl h F p P q rb v6 u7 fh fp k R1 R2 R3 f1 f2 f3 v1 v2 v3 S0 S1 S2 S3 S4) (hn : n = pss.length) : ∃ ub sz, HMat w h n fh (lenf pss) (offs pss) ub sz (valp pss) ∧ ∀ i, i < n → 0 < lenf pss i → u7.ownBlock = some ub := by
  subst hn
  exact hmat_cut H.bun.rh H.links H.cut
end
/-! ### the facts, flipped -/
theorem factsD_other : ∀ (ks : List (Int × Int)) (vs : List Int) (D : DU) (k : Lit) (z : DU), (∀ x ∈ ks, kl x ≠ k) → (factsD ks vs D).atKey k z = D.atKey k z
  | [], vs, D, k, z, _ => by
    have : factsD [] vs D = D := by unfold factsD; rfl
    rw [this]
  | x :: ks, [], D, k, z, _ => by
    have : factsD (x :: ks) [] D = D := by unfold factsD; rfl
    rw [this]
  | x :: ks, v :: vs, D, k, z, h => by
    show (factsD ks vs (D.put (kl x) (.lit (.int .i64 v)))).atKey k z = _
    rw [factsD_other ks vs _ k z (fun y hy => h y (by simp [hy])), Maps.atKey_put_other (Ne.symm (h x (by simp)))]
theorem factsD_flip : ∀ (ks : List (Int × Int)) (vs : List Int) (D1 D2 : DU), ks.length = vs.length → Maps.IsMap D1 → Maps.IsMap D2 → (∀ k ∈ ks, wfK k) → ∀ k : Lit, (∃ x ∈ ks, kl x = k) → ∀ z : DU, ∃ c : Int, (factsD ks vs D1).atKey k z = .lit (.int .i64 c) ∧ (factsD ks (vs.map flp) D2).atKey k z = .lit (.int .i64 (flp c))
  | [], vs, D1, D2, _, _, _, _, k, h, z => by obtain ⟨x, hx, _⟩ := h; cases hx
  | x :: ks, [], D1, D2, hl, _, _, _, _, _, _ => by simp at hl
  | x :: ks, v :: vs, D1, D2, hl, h1, h2, hw, k, h, z => by
    show ∃ c : Int, (factsD ks vs (D1.put (kl x) (.lit (.int .i64 v)))).atKey k z = .lit (.int .i64 c) ∧ (factsD ks (vs.map flp) (D2.put (kl x) (.lit (.int .i64 (flp v))))).atKey k z = .lit (.int .i64 (flp c))
    by_cases hk : ∃ y ∈ ks, kl y = k
    · exact factsD_flip ks vs _ _ (by simpa using hl) (put_isMap _ _ h1) (put_isMap _ _ h2) (fun y hy => hw y (by simp [hy])) k hk z
    · have hno : ∀ y ∈ ks, kl y ≠ k := fun y hy e => hk ⟨y, hy, e⟩
      have hx : kl x = k := by
        obtain ⟨y, hy, e⟩ := h
        rcases List.mem_cons.1 hy with rfl | hy
        · exact e
        · exact absurd e (hno y hy)
      have hkl := kl_key (hw x (by simp))
      refine ⟨v, ?_, ?_⟩
      · rw [factsD_other ks vs _ k z hno, ← hx, Maps.atKey_put_same h1 hkl]
      · rw [factsD_other ks _ _ k z hno, ← hx, Maps.atKey_put_same h2 hkl]
end Go.Proofs.Qxb6605294a
