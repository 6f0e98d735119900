import Derived.Test.Qxb6605294aRead
import Derived.Test.Qxb6605294aSame
import Derived.Maps.Ext
set_option maxRecDepth 100000
namespace Go.Proofs.Qxb6605294a
open Go.ChangeShapes Go.WideShapes Go.ChangeAt Go.RowKit
open Go.Maps (Keyed)
set_option linter.unusedVariables false

/-- the facts, laid one after the other -/
noncomputable def factsD : List (Int × Int) → List Int → DU → DU
  | k :: ks, v :: vs, D => factsD ks vs (D.put (kl k) (.lit (.int .i64 v)))
  | _, _, D => D
theorem factsD_step {ks : List (Int × Int)} {vs : List Int} {i : Nat} {k : Int × Int} {v : Int} (D : DU) (hk : ks.drop i = k :: ks.drop (i + 1)) (hv : vs.drop i = v :: vs.drop (i + 1)) :
    factsD (ks.drop i) (vs.drop i) D = factsD (ks.drop (i + 1)) (vs.drop (i + 1)) (D.put (kl k) (.lit (.int .i64 v))) := by
  rw [hk, hv]; rfl
theorem kl_key {k : Int × Int} (h : wfK k) : WideAt.IsKeyLit (kl k) := keyed73.key (kl_ok h)
theorem put_isMap {D : DU} (k : Lit) (d : DU) (h : Maps.IsMap D) : Maps.IsMap (D.put k d) := by
  obtain ⟨es, rfl⟩ := h
  exact ⟨_, rfl⟩
theorem factsD_has : ∀ (ks : List (Int × Int)) (vs : List Int) (D : DU), ks.length = vs.length → Maps.IsMap D → (∀ k ∈ ks, wfK k) → ∀ k, (k ∈ ks ∨ Maps.has D (kl k) = true) → Maps.has (factsD ks vs D) (kl k) = true
  | [], vs, D, _, _, _, k, h => by
    have : factsD [] vs D = D := by unfold factsD; rfl
    rw [this]
    simpa using h
  | x :: ks, [], D, hl, _, _, _, _ => by simp at hl
  | x :: ks, v :: vs, D, hl, hD, hw, k, h => by
    show Maps.has (factsD ks vs (D.put (kl x) (.lit (.int .i64 v)))) (kl k) = true
    refine factsD_has ks vs _ (by simpa using hl) (put_isMap _ _ hD) (fun y hy => hw y (by simp [hy])) k ?_
    have hx := hw x (by simp)
    by_cases e : kl k = kl x
    · rw [e]; exact .inr (Maps.has_put_same hD (kl_key hx) _)
    · rcases h with h | h
      · rcases List.mem_cons.1 h with rfl | h
        · exact absurd rfl e
        · exact .inl h
      · exact .inr (by rw [Maps.has_put_other e]; exact h)
theorem step_mapUpdate_own {H : Type} {P : Program} {ops : Array Oper} {o : Oper} {a : Act} {w : World} {K : Act → World → Prop} {Q : Exit → Act → World → Prop} {E : Prop}
    (hg : o.guard = none) (m x v : Operand) (t : TypeId) (hop : o.op = Op.mapUpdate t m x v)
    (k e : TypeId) (KK : Keyed P k) (ht : P.underlying t = some (.map k e)) (R : Value → Option (DataW H × List MemPlace)) (b n : Nat) (D : DataW H)
    (hm : a.eval m = .map (some b)) (hown : w.ownsMap P k R b n D) (hn : n < maxLen) (key val : Value) (kl : Lit) (hx : a.eval x = key) (hv : a.eval v = val) (hkey : keyOf P k key = some kl)
    (d : DataW H) (ps : List MemPlace) (hval : R val = some (d, ps))
    (hK : ∀ w', w'.ownsMap P k R b (n + 1) (D.put kl d) → w.grownBy w' (some b) → K (a.put o.dst undef) w') :
    if Region.wanted o (yielded ops a.tmps) = true then Oper.wp P o a w K Q else E := by
  have hw : Region.wanted o (yielded ops a.tmps) = true := by simp [Region.wanted, hg]
  rw [if_pos hw]
  obtain ⟨w', hrun, r1, r2⟩ := hown.update KK ht hn hkey hval
  unfold Oper.wp
  simp [execOp, hop, hm, hx, hv, hrun, Result.andThen]
  exact hK w' r1 r2
/-- the graph in memory, as far as it is compared -/
def GAt (w : World) (g : Nat) (pss : List (List (Int × Int))) (hb co cb pb : List (List Int)) (D : DU) (pl : List Bool) : Prop :=
  ∃ (a0 : Option Addr) (c0 : Nat) (a1 : Option Addr) (c1 : Nat) (a2 : Option Addr) (c2 : Nat) (a3 : Option Addr) (c3 fb fn : Nat) (a5 : Option Addr) (c5 : Nat) (a6 : Option Addr) (c6 : Nat),
    w.cell? ⟨g, 0, none⟩ = some (.slice a0 pss.length c0) ∧ w.cell? ⟨g, 1, none⟩ = some (.slice a1 hb.length c1) ∧ w.cell? ⟨g, 2, none⟩ = some (.slice a2 co.length c2) ∧ w.cell? ⟨g, 3, none⟩ = some (.slice a3 cb.length c3) ∧
    w.cell? ⟨g, 4, none⟩ = some (.map (some fb)) ∧ w.cell? ⟨g, 5, none⟩ = some (.slice a5 pb.length c5) ∧ w.cell? ⟨g, 6, none⟩ = some (.slice a6 pl.length c6) ∧
    HRow w a0 pss ∧ LRow w a1 hb ∧ LRow w a2 co ∧ LRow w a3 cb ∧ FM w fb fn D ∧ LRow w a5 pb ∧ Row Value.bool false w a6 pl
theorem GAt.below {w w' : World} {g : Nat} {pss : List (List (Int × Int))} {hb co cb pb : List (List Int)} {D : DU} {pl : List Bool} (h : GAt w g pss hb co cb pb D pl) (hbw : Below w.heap.size w w') : GAt w' g pss hb co cb pb D pl := by
  obtain ⟨a0, c0, a1, c1, a2, c2, a3, c3, fb, fn, a5, c5, a6, c6, h0, h1, h2, h3, h4, h5, h6, r0, r1, r2, r3, r4, r5, r6⟩ := h
  have l : ∀ {i : Nat} {v : Value}, w.cell? ⟨g, i, none⟩ = some v → w'.cell? ⟨g, i, none⟩ = some v := fun h => by rw [hbw.cell (cell_lt' h)]; exact h
  exact ⟨a0, c0, a1, c1, a2, c2, a3, c3, fb, fn, a5, c5, a6, c6, l h0, l h1, l h2, l h3, l h4, l h5, l h6, r0.below hbw, r1.below hbw, r2.below hbw, r3.below hbw, r4.below hbw, r5.below hbw, r6.below hbw⟩
end Go.Proofs.Qxb6605294a
