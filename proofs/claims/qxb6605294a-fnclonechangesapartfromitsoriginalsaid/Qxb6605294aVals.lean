import Derived.Test.Qxb6605294aNewG
set_option maxRecDepth 100000
namespace Go.Proofs.Qxb6605294a
open Go.ChangeShapes Go.WideShapes Go.ChangeAt Go.RowKit
set_option linter.unusedVariables false

/-! ### a region that draws its order, of which each operation yields a value that stays good in every later world -/
def Deps (ops : Array Oper) (i : Nat) : List Nat := ((ops[i]?).map fun o => (o.after.toList.filter (fun e => Region.binds .any e)).map (·.on)).getD []
theorem ready_deps {ops : Array Oper} {listed : Array Bool} {i : Nat} (h : i ∈ Region.ready .any ops listed) : listed.getD i true = false ∧ i < ops.size ∧ ∀ j ∈ Deps ops i, listed.getD j false = true := by
  unfold Region.ready at h
  rw [List.mem_filter] at h
  obtain ⟨h1, h2⟩ := h
  have hi : i < ops.size := by simpa using h1
  rw [Bool.and_eq_true] at h2
  refine ⟨by simpa using h2.1, hi, fun j hj => ?_⟩
  have h3 := h2.2
  rw [Array.getElem?_eq_getElem hi] at h3
  simp only [Option.map_some, Option.getD_some, Array.all_eq_true'] at h3
  unfold Deps at hj
  rw [Array.getElem?_eq_getElem hi] at hj
  simp only [Option.map_some, Option.getD_some, List.mem_map, List.mem_filter] at hj
  obtain ⟨e, ⟨he, hb⟩, rfl⟩ := hj
  have := h3 e (by simpa using he)
  rw [hb] at this
  simpa using this
theorem deps_ready {ops : Array Oper} {listed : Array Bool} {i : Nat} (hi : i < ops.size) (h1 : listed.getD i true = false) (h : ∀ j ∈ Deps ops i, listed.getD j false = true) : i ∈ Region.ready .any ops listed := by
  unfold Region.ready
  rw [List.mem_filter]
  refine ⟨by simpa using hi, ?_⟩
  rw [Bool.and_eq_true]
  refine ⟨by rw [h1]; rfl, ?_⟩
  rw [Array.getElem?_eq_getElem hi]
  simp only [Option.map_some, Option.getD_some, Array.all_eq_true']
  intro e he
  by_cases hb : Region.binds .any e = true
  · have := h e.on (by
      unfold Deps
      rw [Array.getElem?_eq_getElem hi]
      simp only [Option.map_some, Option.getD_some, List.mem_map, List.mem_filter]
      exact ⟨e, ⟨by simpa using he, hb⟩, rfl⟩)
    rw [this]; simp
  · simp at hb; simp [hb]
def lower (ops : Array Oper) : Bool := (List.range ops.size).all fun i => (Deps ops i).all fun j => decide (j < i)
theorem ready_nil {ops : Array Oper} {listed : Array Bool} (hord : lower ops = true) (hl : listed.size = ops.size) (h : Region.ready .any ops listed = []) : ∀ i, i < ops.size → listed.getD i false = true := by
  intro i
  induction i using Nat.strongRecOn with
  | ind i ih =>
    intro hi
    cases hc : listed.getD i false with
    | true => rfl
    | false =>
      have h1 : listed.getD i true = false := by
        rw [Array.getD, dif_pos (show i < listed.size by omega)] at hc ⊢
        exact hc
      have : i ∈ Region.ready .any ops listed := deps_ready hi h1 fun j hj => by
        unfold lower at hord
        rw [List.all_eq_true] at hord
        have h2 := hord i (by simpa using hi)
        rw [List.all_eq_true] at h2
        have h3 := of_decide_eq_true (h2 j hj)
        exact ih j h3 (by omega)
      rw [h] at this
      cases this
def upd (u : Nat → Value) (i : Nat) (v : Value) : Nat → Value := fun j => if j = i then v else u j
section
variable {P : Program} {ops : Array Oper} {Q : Exit → Act → World → Prop} {fr : (Nat → Value) → Act} {V : Nat → Value → World → Prop} {blk : Nat → Value → Nat → Prop} {w0 : World}
def Goods (ops : Array Oper) (V : Nat → Value → World → Prop) (blk : Nat → Value → Nat → Prop) (u : Nat → Value) (w : World) : Prop :=
  (∀ i, i < ops.size → V i (u i) w) ∧ ∀ i j b, i < ops.size → j < ops.size → i ≠ j → blk i (u i) b → ¬ blk j (u j) b
theorem wpAny_vals (hord : lower ops = true) (hV : ∀ i v w w', Below w.heap.size w w' → V i v w → V i v w')
    (hput : ∀ i, i < ops.size → ∀ u v, (fr u).put ((ops[i]?).bind (·.dst)) v = fr (upd u i v))
    (hstep : ∀ i o, ops[i]? = some o → ∀ u w, Below w0.heap.size w0 w → (∀ j ∈ Deps ops i, V j (u j) w) → (∀ j k b, j ∈ Deps ops i → k ∈ Deps ops i → j ≠ k → blk j (u j) b → ¬ blk k (u k) b) → ∀ K : Act → World → Prop, (∀ v w', Below w.heap.size w w' → V i v w' → (∀ b, blk i v b → w.heap.size ≤ b ∧ b < w'.heap.size) → K ((fr u).put o.dst v) w') → if Region.wanted o (yielded ops (fr u).tmps) = true then Oper.wp P o (fr u) w K Q else K ((fr u).put o.dst undef) w)
    (hdone : ∀ u w, Below w0.heap.size w0 w → Goods ops V blk u w → Q .normal (fr u) w) :
    ∀ fuel (listed : Array Bool) u w, listed.size = ops.size → listed.toList.count false ≤ fuel → Below w0.heap.size w0 w → (∀ j, listed.getD j false = true → V j (u j) w ∧ ∀ b, blk j (u j) b → b < w.heap.size) → (∀ i j b, listed.getD i false = true → listed.getD j false = true → i ≠ j → blk i (u i) b → ¬ blk j (u j) b) → wpAny P .any ops Q fuel listed (fr u) w := by
  intro fuel
  induction fuel with
  | zero =>
    intro listed u w hl hc hb hv hd
    have hall : Region.ready .any ops listed = [] := by
      rcases hr : Region.ready .any ops listed with _ | ⟨i, rs⟩
      · rfl
      · have hi : i ∈ Region.ready .any ops listed := by rw [hr]; simp
        obtain ⟨h1, h2, _⟩ := ready_deps hi
        rw [Array.getD, dif_pos (show i < listed.size by omega)] at h1
        have : false ∈ listed.toList := by rw [← h1]; simp
        have := List.count_pos_iff.2 this
        omega
    refine ⟨hall, hdone u w hb ⟨fun i hi => (hv i (ready_nil hord hl hall i hi)).1, fun i j b hi hj => hd i j b (ready_nil hord hl hall i hi) (ready_nil hord hl hall j hj)⟩⟩
  | succ fuel ih =>
    intro listed u w hl hc hb hv hd
    refine ⟨fun hall => hdone u w hb ⟨fun i hi => (hv i (ready_nil hord hl hall i hi)).1, fun i j b hi hj => hd i j b (ready_nil hord hl hall i hi) (ready_nil hord hl hall j hj)⟩, fun i hi => ?_⟩
    obtain ⟨h1, h2, h3⟩ := ready_deps hi
    have hil : i < listed.size := by omega
    rw [Array.getD, dif_pos hil] at h1
    refine wpOp_step (Array.getElem?_eq_getElem h2) fun K hK => ?_
    refine hstep i _ (Array.getElem?_eq_getElem h2) u w hb (fun j hj => (hv j (h3 j hj)).1) (fun j k b hj hk => hd j k b (h3 j hj) (h3 k hk)) K fun v w' hb' hv' hbl' => hK _ _ ?_
    have hp := hput i h2 u v
    rw [Array.getElem?_eq_getElem h2] at hp
    simp only [Option.bind_some] at hp
    rw [hp]
    have hset : ∀ j, (listed.setIfInBounds i true).getD j false = true → j ≠ i → listed.getD j false = true := fun j hj hne => by
      simp only [Array.getD_eq_getD_getElem?, Array.getElem?_setIfInBounds_ne (Ne.symm hne)] at hj ⊢
      exact hj
    have hold : ∀ j, j ≠ i → (listed.setIfInBounds i true).getD j false = true → ∀ b, blk j (upd u i v j) b → b < w.heap.size := fun j hne hj b hjb => by
      rw [show upd u i v j = u j from if_neg hne] at hjb
      exact (hv j (hset j hj hne)).2 b hjb
    have hnew : ∀ b, blk i (upd u i v i) b → w.heap.size ≤ b ∧ b < w'.heap.size := fun b hjb => by
      rw [show upd u i v i = v from if_pos rfl] at hjb
      exact hbl' b hjb
    refine ih _ _ _ (by simpa using hl) ?_ (below_next hb hb') (fun j hj => ?_) (fun j k b hj hk hne hjb hkb => ?_)
    · have e : (listed.setIfInBounds i true).toList = listed.toList.set i true := by simp
      rw [e, List.count_set (by simpa using hil)]
      have e2 : listed.toList[i]'(by simpa using hil) = false := by simpa using h1
      rw [e2]
      simp only [BEq.rfl, if_true]
      rw [if_neg (by decide)]
      have : false ∈ listed.toList := by rw [← h1]; simp
      have := List.count_pos_iff.2 this
      omega
    · by_cases hne : j = i
      · subst hne
        exact ⟨by rw [show upd u j v j = v from if_pos rfl]; exact hv', fun b hjb => (hnew b hjb).2⟩
      · refine ⟨?_, fun b hjb => Nat.lt_of_lt_of_le (hold j hne hj b hjb) hb'.size⟩
        rw [show upd u i v j = u j from if_neg hne]
        exact hV j _ _ _ hb' (hv j (hset j hj hne)).1
    · by_cases hji : j = i
      · subst hji
        have h4 := hnew b hjb
        have h5 := hold k (Ne.symm hne) hk b hkb
        omega
      · by_cases hki : k = i
        · subst hki
          have h4 := hnew b hkb
          have h5 := hold j hji hj b hjb
          omega
        · rw [show upd u i v j = u j from if_neg hji] at hjb
          rw [show upd u i v k = u k from if_neg hki] at hkb
          exact hd j k b (hset j hj hji) (hset k hk hki) hne hjb hkb
theorem region_vals {id : Nat} {a : Act} {w : World} (hm : P.follows .mixedOrders = true) (hord : lower ops = true) (fr : (Nat → Value) → Act) (u0 : Nat → Value) (ha : a = fr u0) (V : Nat → Value → World → Prop) (blk : Nat → Value → Nat → Prop) (hV : ∀ i v w w', Below w.heap.size w w' → V i v w → V i v w')
    (hput : ∀ i, i < ops.size → ∀ u v, (fr u).put ((ops[i]?).bind (·.dst)) v = fr (upd u i v))
    (hstep : ∀ i o, ops[i]? = some o → ∀ u w', Below w.heap.size w w' → (∀ j ∈ Deps ops i, V j (u j) w') → (∀ j k b, j ∈ Deps ops i → k ∈ Deps ops i → j ≠ k → blk j (u j) b → ¬ blk k (u k) b) → ∀ K : Act → World → Prop, (∀ v w'', Below w'.heap.size w' w'' → V i v w'' → (∀ b, blk i v b → w'.heap.size ≤ b ∧ b < w''.heap.size) → K ((fr u).put o.dst v) w'') → if Region.wanted o (yielded ops (fr u).tmps) = true then Oper.wp P o (fr u) w' K Q else K ((fr u).put o.dst undef) w')
    (hdone : ∀ u w', Below w.heap.size w w' → Goods ops V blk u w' → Q .normal (fr u) w') :
    (Code.region id ops true).wp P Q a w := by
  refine wp_region_any hm ?_
  subst ha
  refine wpAny_vals (w0 := w) hord hV hput hstep hdone ops.size _ u0 _ (by simp) ?_ (show Below w.heap.size w w.drew from (Below.refl _ _).drew) (fun j hj => ?_) (fun i j b hi => ?_)
  · simp
  · exfalso
    rw [Array.getD_eq_getD_getElem?, Array.getElem?_replicate] at hj
    split at hj <;> simp at hj
  · exfalso
    rw [Array.getD_eq_getD_getElem?, Array.getElem?_replicate] at hi
    split at hi <;> simp at hi
end
end Go.Proofs.Qxb6605294a
