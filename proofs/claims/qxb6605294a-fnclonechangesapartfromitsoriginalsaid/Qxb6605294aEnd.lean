import Derived.Test.Qxb6605294aVals
import Derived.Test.Qxb6605294aParts
set_option maxRecDepth 100000
namespace Go.Proofs.Qxb6605294a
open Go.ChangeShapes Go.WideShapes Go.ChangeAt Go.RowKit
set_option linter.unusedVariables false

/-! ### a region that draws, of which all operations but the last only read, and the last (a call) wants them all; the frame is a letter -/
def frL (a : Act) (lo m : Nat) (u : Nat → Value) : Act := { a with tmps := Array.ofFn (n := a.tmps.size) fun s => if lo ≤ s.1 ∧ s.1 < lo + m then u (s.1 - lo) else a.tmps[s] }
theorem frL_size (a : Act) (lo m : Nat) (u : Nat → Value) : (frL a lo m u).tmps.size = a.tmps.size := by simp [frL]
theorem frL_eval {a : Act} {lo m s : Nat} (u : Nat → Value) (hs : s < a.tmps.size) : (frL a lo m u).eval (.tmp s) = if lo ≤ s ∧ s < lo + m then u (s - lo) else a.eval (.tmp s) := by
  show (frL a lo m u).tmps.getD s undef = if lo ≤ s ∧ s < lo + m then u (s - lo) else a.tmps.getD s undef
  rw [Array.getD_eq_getD_getElem?, Array.getD_eq_getD_getElem?]
  simp [frL, hs]
theorem frL_in {a : Act} {lo m s : Nat} (u : Nat → Value) (i : Nat) (hs : s < a.tmps.size) (h1 : s = lo + i) (h2 : i < m) : (frL a lo m u).eval (.tmp s) = u i := by
  rw [frL_eval u hs, if_pos (by omega)]
  congr 1; omega
theorem frL_out {a : Act} {lo m s : Nat} (u : Nat → Value) (hs : s < a.tmps.size) (h : s < lo ∨ lo + m ≤ s) : (frL a lo m u).eval (.tmp s) = a.eval (.tmp s) := by
  rw [frL_eval u hs, if_neg (by omega)]
theorem frL_put {a : Act} {lo m i : Nat} (u : Nat → Value) (v : Value) (hi : i < m) (hm : lo + m ≤ a.tmps.size) : (frL a lo m u).put (some (lo + i)) v = frL a lo m (upd u i v) := by
  unfold Act.put frL
  simp only
  congr 1
  apply Array.ext
  · simp
  · intro s h1 h2
    simp only [Array.size_setIfInBounds, Array.size_ofFn] at h1
    rw [Array.getElem_setIfInBounds (by simpa using h1)]
    by_cases e : lo + i = s
    · subst e
      simp only [if_true, Array.getElem_ofFn]
      rw [if_pos (by omega)]
      unfold upd
      rw [if_pos (by omega)]
    · rw [if_neg e]
      simp only [Array.getElem_ofFn]
      by_cases h : lo ≤ s ∧ s < lo + m
      · rw [if_pos h, if_pos h]
        unfold upd
        rw [if_neg (by omega)]
      · rw [if_neg h, if_neg h]
theorem frL_zero (a : Act) (lo : Nat) (u : Nat → Value) : frL a lo 0 u = a := by
  unfold frL
  obtain ⟨t, d⟩ := a
  simp only
  congr 1
  apply Array.ext
  · simp
  · intro s h1 h2
    simp only [Array.getElem_ofFn]
    rw [if_neg (by omega)]
    rfl
theorem frL_succ (a : Act) (lo m : Nat) (u : Nat → Value) (hm : lo + m < a.tmps.size) : frL a lo (m + 1) u = (frL a lo m u).put (some (lo + m)) (u m) := by
  unfold Act.put frL
  simp only
  congr 1
  apply Array.ext
  · simp
  · intro s h1 h2
    simp only [Array.size_ofFn] at h1
    rw [Array.getElem_setIfInBounds (by simpa using h1)]
    simp only [Array.getElem_ofFn]
    by_cases e : lo + m = s
    · subst e
      rw [if_pos (by omega), if_pos rfl]
      congr 1; omega
    · rw [if_neg e]
      by_cases h : lo ≤ s ∧ s < lo + m
      · rw [if_pos (by omega), if_pos h]
      · rw [if_neg (by omega), if_neg h]
theorem frL_base (a : Act) (lo m : Nat) : a = frL a lo m (fun i => a.tmps.getD (lo + i) undef) := by
  unfold frL
  obtain ⟨t, d⟩ := a
  simp only
  congr 1
  apply Array.ext
  · simp
  · intro s h1 h2
    simp only [Array.getElem_ofFn]
    by_cases h : lo ≤ s ∧ s < lo + m
    · rw [if_pos h, Array.getD_eq_getD_getElem?, show lo + (s - lo) = s by omega, Array.getElem?_eq_getElem h1]
      rfl
    · rw [if_neg h]; rfl
/-- all that leads to the operations of l -/
def anc (ops : Array Oper) : Nat → List Nat → List Nat
  | 0, l => l
  | n + 1, l => anc ops n (l ++ l.flatMap (Deps ops))
theorem anc_listed {ops : Array Oper} {listed : Array Bool} (hc : ∀ j, listed.getD j false = true → ∀ k ∈ Deps ops j, listed.getD k false = true) : ∀ n l, (∀ j ∈ l, listed.getD j false = true) → ∀ j ∈ anc ops n l, listed.getD j false = true
  | 0, l, h => h
  | n + 1, l, h => by
    refine anc_listed hc n _ fun j hj => ?_
    rcases List.mem_append.1 hj with hj | hj
    · exact h j hj
    · obtain ⟨i, hi, hk⟩ := List.mem_flatMap.1 hj
      exact hc i (h i hi) j hk
theorem wpAny_all {P : Program} {ops : Array Oper} {Q : Exit → Act → World → Prop} (fuel : Nat) {listed : Array Bool} {a : Act} {w : World} (hl : ∀ i, i < ops.size → listed.getD i true = true) (hQ : Q .normal a w) : wpAny P .any ops Q fuel listed a w := by
  have hno : ∀ i, i ∉ Region.ready .any ops listed := fun i hi => by
    obtain ⟨h1, h2, _⟩ := ready_deps hi
    rw [hl i h2] at h1; cases h1
  have hall : Region.ready .any ops listed = [] := by
    rcases hr : Region.ready .any ops listed with _ | ⟨i, rs⟩
    · rfl
    · exact absurd (by rw [hr]; simp) (hno i)
  cases fuel with
  | zero => exact ⟨hall, hQ⟩
  | succ fuel => exact ⟨fun _ => hQ, fun i hi => absurd hi (hno i)⟩
section
variable {P : Program} {ops : Array Oper} {Q : Exit → Act → World → Prop} {fr : (Nat → Value) → Act} {N : Nat} {val : Nat → Value} {Fin : Value → World → Prop} {w1 : World}
theorem wpAny_end (hord : lower ops = true) (hN : ops.size = N + 1) (hanc : ((List.range N).all fun j => (anc ops N (Deps ops N)).contains j) = true)
    (hput : ∀ i, i < ops.size → ∀ u v, (fr u).put ((ops[i]?).bind (·.dst)) v = fr (upd u i v))
    (hq : ∀ i o, i < N → ops[i]? = some o → ∀ u, (∀ j ∈ Deps ops i, u j = val j) → ∀ K : Act → World → Prop, K ((fr u).put o.dst (val i)) w1 → if Region.wanted o (yielded ops (fr u).tmps) = true then Oper.wp P o (fr u) w1 K Q else K ((fr u).put o.dst undef) w1)
    (hl : ∀ o, ops[N]? = some o → ∀ u, (∀ j, j < N → u j = val j) → ∀ K : Act → World → Prop, (∀ v w2, Fin v w2 → K ((fr u).put o.dst v) w2) → if Region.wanted o (yielded ops (fr u).tmps) = true then Oper.wp P o (fr u) w1 K Q else K ((fr u).put o.dst undef) w1)
    (hdone : ∀ u w2, (∀ j, j < N → u j = val j) → Fin (u N) w2 → Q .normal (fr u) w2) :
    ∀ fuel (listed : Array Bool) u, listed.size = ops.size → listed.toList.count false ≤ fuel → listed.getD N false = false → (∀ j, listed.getD j false = true → ∀ k ∈ Deps ops j, listed.getD k false = true) → (∀ j, listed.getD j false = true → u j = val j) → wpAny P .any ops Q fuel listed (fr u) w1 := by
  have hmem : ∀ {listed : Array Bool}, (∀ j, listed.getD j false = true → ∀ k ∈ Deps ops j, listed.getD k false = true) → (∀ k ∈ Deps ops N, listed.getD k false = true) → ∀ j, j < N → listed.getD j false = true := by
    intro listed hc hd j hj
    rw [List.all_eq_true] at hanc
    have := hanc j (by simpa using hj)
    exact anc_listed hc N _ hd j (by simpa using this)
  intro fuel
  induction fuel with
  | zero =>
    intro listed u hs hc hNl hcl hu
    exfalso
    have hNs : N < listed.size := by omega
    rw [Array.getD, dif_pos hNs] at hNl
    have : false ∈ listed.toList := by rw [← hNl]; simp
    have := List.count_pos_iff.2 this
    omega
  | succ fuel ih =>
    intro listed u hs hc hNl hcl hu
    refine ⟨fun hall => ?_, fun i hi => ?_⟩
    · exfalso
      have := ready_nil hord hs hall N (by omega)
      rw [hNl] at this; cases this
    · obtain ⟨h1, h2, h3⟩ := ready_deps hi
      have hil : i < listed.size := by omega
      rw [Array.getD, dif_pos hil] at h1
      refine wpOp_step (Array.getElem?_eq_getElem h2) fun K hK => ?_
      have hset : ∀ j, j ≠ i → (listed.setIfInBounds i true).getD j false = listed.getD j false := fun j hne => by
        simp only [Array.getD_eq_getD_getElem?, Array.getElem?_setIfInBounds_ne (Ne.symm hne)]
      have hseti : (listed.setIfInBounds i true).getD i false = true := by
        simp [Array.getD_eq_getD_getElem?, hil]
      have hputi : ∀ v, (fr u).put (ops[i]).dst v = fr (upd u i v) := fun v => by
        have hp := hput i h2 u v
        rw [Array.getElem?_eq_getElem h2] at hp
        exact hp
      by_cases e : i = N
      · subst e
        have hall := hmem hcl h3
        refine hl _ (Array.getElem?_eq_getElem h2) u (fun j hj => hu j (hall j hj)) K fun v w2 hF => hK _ _ ?_
        rw [hputi]
        refine wpAny_all fuel (fun j hj => ?_) (hdone _ _ (fun j hj => ?_) ?_)
        · by_cases ej : j = i
          · subst ej; simp [Array.getD_eq_getD_getElem?, hil]
          · have hjl : j < listed.size := by omega
            have h4 := hall j (by omega)
            simp only [Array.getD_eq_getD_getElem?, Array.getElem?_setIfInBounds_ne (Ne.symm ej), Array.getElem?_eq_getElem hjl, Option.getD_some] at h4 ⊢
            exact h4
        · unfold upd; rw [if_neg (by omega)]; exact hu j (hall j hj)
        · unfold upd; rw [if_pos rfl]; exact hF
      · refine hq i _ (by omega) (Array.getElem?_eq_getElem h2) u (fun j hj => hu j (h3 j hj)) K (hK _ _ ?_)
        rw [hputi]
        refine ih _ _ (by simpa using hs) ?_ ?_ (fun j hj k hk => ?_) (fun j hj => ?_)
        · have e1 : (listed.setIfInBounds i true).toList = listed.toList.set i true := by simp
          rw [e1, List.count_set (by simpa using hil)]
          have e2 : listed.toList[i]'(by simpa using hil) = false := by simpa using h1
          rw [e2]
          simp only [BEq.rfl, if_true]
          rw [if_neg (by decide)]
          have : false ∈ listed.toList := by rw [← h1]; simp
          have := List.count_pos_iff.2 this
          omega
        · rw [hset N (Ne.symm e)]; exact hNl
        · by_cases ek : k = i
          · subst ek; exact hseti
          · rw [hset k ek]
            by_cases ej : j = i
            · subst ej; exact h3 k hk
            · rw [hset j ej] at hj; exact hcl j hj k hk
        · by_cases ej : j = i
          · subst ej; unfold upd; rw [if_pos rfl]
          · rw [hset j ej] at hj
            unfold upd; rw [if_neg ej]; exact hu j hj
theorem region_end {id : Nat} {a : Act} {w : World} (hm : P.follows .mixedOrders = true) (hord : lower ops = true) (hN : ops.size = N + 1) (hanc : ((List.range N).all fun j => (anc ops N (Deps ops N)).contains j) = true) (fr : (Nat → Value) → Act) (u0 : Nat → Value) (ha : a = fr u0) (val : Nat → Value) (Fin : Value → World → Prop)
    (hput : ∀ i, i < ops.size → ∀ u v, (fr u).put ((ops[i]?).bind (·.dst)) v = fr (upd u i v))
    (hq : ∀ i o, i < N → ops[i]? = some o → ∀ u, (∀ j ∈ Deps ops i, u j = val j) → ∀ K : Act → World → Prop, K ((fr u).put o.dst (val i)) w.drew → if Region.wanted o (yielded ops (fr u).tmps) = true then Oper.wp P o (fr u) w.drew K Q else K ((fr u).put o.dst undef) w.drew)
    (hl : ∀ o, ops[N]? = some o → ∀ u, (∀ j, j < N → u j = val j) → ∀ K : Act → World → Prop, (∀ v w2, Fin v w2 → K ((fr u).put o.dst v) w2) → if Region.wanted o (yielded ops (fr u).tmps) = true then Oper.wp P o (fr u) w.drew K Q else K ((fr u).put o.dst undef) w.drew)
    (hdone : ∀ u w2, (∀ j, j < N → u j = val j) → Fin (u N) w2 → Q .normal (fr u) w2) :
    (Code.region id ops true).wp P Q a w := by
  refine wp_region_any hm ?_
  subst ha
  refine wpAny_end hord hN hanc hput hq hl hdone ops.size _ u0 (by simp) (by simp) ?_ (fun j hj => ?_) (fun j hj => ?_)
  · rw [Array.getD_eq_getD_getElem?, Array.getElem?_replicate]
    split <;> simp
  · exfalso
    rw [Array.getD_eq_getD_getElem?, Array.getElem?_replicate] at hj
    split at hj <;> simp at hj
  · exfalso
    rw [Array.getD_eq_getD_getElem?, Array.getElem?_replicate] at hj
    split at hj <;> simp at hj
end
end Go.Proofs.Qxb6605294a
