import Derived.Test.Qxb6605195aSort
namespace Go.Proofs.Qxb6605195a
open Go.ChangeShapes Go.WideShapes Go.ChangeAt Go.RowKit Plain
set_option linter.unusedVariables false
set_option maxRecDepth 100000

/-! ### slices.Clone -/
theorem pairRow_news {k : IntKind} {w : World} {x : Addr} {xs : List (Int × Int)} (h : PairRow k w (some x) xs) : ∀ j u, (flat k xs)[j]? = some u → w.cell? (x.add j) = some u := by
  intro j u hj
  have hl := flat_len k xs
  have hj' : j < (flat k xs).length := by
    rcases Nat.lt_or_ge j (flat k xs).length with h' | h'
    · exact h'
    · rw [List.getElem?_eq_none h'] at hj; cases hj
  obtain ⟨b, off, e, hc⟩ := h (by omega)
  simp only [Option.some.injEq] at e
  subst e
  have ha : (⟨b, off, none⟩ : Addr).add j = ⟨b, off + j, none⟩ := by unfold Addr.add; split <;> simp_all
  rw [ha]
  have hg := flat_get k xs (j / 2) (by omega)
  obtain ⟨c1, c2⟩ := hc (j / 2) (by omega)
  rcases (show j % 2 = 0 ∨ j % 2 = 1 by omega) with h0 | h0
  · rw [show off + j = off + j / 2 * 2 from by omega, c1, ← hj, ← hg.1, show j / 2 * 2 = j from by omega]
  · rw [show off + j = off + j / 2 * 2 + 1 from by omega, c2, ← hj, ← hg.2, show j / 2 * 2 + 1 = j from by omega]

/-- a row of the call's own -/
def RetNew (B : Nat) (xs : List (Int × Int)) (e : Ending) (w' : World) : Prop := ∃ g c, e = .returned (.slice (some ⟨g, 0, none⟩) xs.length c) ∧ w'.ownsRow B 60 2 (.slice (some ⟨g, 0, none⟩) xs.length c) xs.length (flat .i32 xs)

set_option maxHeartbeats 1000000 in
theorem sclone_some (x : Addr) (cap : Nat) (xs : List (Int × Int)) (w : World) (hm : xs.length ≤ 1048576) (hr : Hid (PairRow .i32 w (some x) xs)) :
    Calls Try.prog 42 #[.slice (some x) xs.length cap] w fun e w' => RetNew w.heap.size xs e w' ∧ Hid (Below w.heap.size w w') := by
  obtain ⟨i0, hi0, hz0, hz1, hz2⟩ := info_parts Try.info60
  have hnl := eqNil27
  go_enter Try.func42, Try.ntmps42
  go_wp2_with (at_builtin; refine wpList_append_own _ rfl (.tmp 5) (.tmp 6) 27 rfl w.heap.size 60 i0 (.agg #[.int .i32 0, .int .i32 0]) 2 8 Try.underlying27 hi0 hz0 hz1 hz2 rfl (by decide) _ _ _ rfl (World.ownsRow_made w #[] 0 (Nat.le_refl _) (Nat.zero_le _) (by simp)) x xs.length cap (flat .i32 xs) rfl (flat_len _ _) ?c1 (flat_one _ _) (by unfold maxLen; omega) (by omega) (by simp) ?_)
  case c1 => exact fun j u hj => (pairRow_news hr.out j u hj |> fun h => by rw [World.cell?_alloc_lt _ _ _ (cell_lt' h)]; exact h)
  · intro v1 w1 hown1 hgrow1 hnil1
    have HN := hid hnil1
    have HO := hid hown1
    have HB := hid (((Below.refl w.heap.size w).alloc (Nat.le_refl _) _).grown hgrow1 (by simp) (fun k hk => by simp [Value.ownBlock] at hk; omega))
    clear hown1 hgrow1 hnil1
    go_wp2_with fail
    go_ret
    refine ⟨?_, HB⟩
    have HO' := HO.out
    obtain ⟨hl, ⟨hv, _⟩ | ⟨g, cap', cur, hv, hb, hh, h1, h2, h3, h4⟩⟩ := id HO'
    · exact absurd hv HN.out
    · subst hv
      exact ⟨g, cap', rfl, HO'⟩

theorem sclone_nil (n cap : Nat) (w : World) :
    Calls Try.prog 42 #[.slice none n cap] w fun e w' => e = .returned (.slice none 0 0) ∧ w' = w := by
  have hnl := eqNil27
  go_enter Try.func42, Try.ntmps42
  go_wp2_with fail
  go_ret
  exact ⟨rfl, rfl⟩
/-! ### newSet: the merge -/
theorem flat_set (k : IntKind) (pre : List (Int × Int)) (l1 l2 m : Int) : (flat k (pre ++ [(l1, l2)])).set (pre.length * 2 + 1) (.int k m) = flat k (pre ++ [(l1, m)]) := by
  rw [flat_append, flat_append, List.set_append_right _ _ (by rw [flat_len]; omega), flat_len]
  have : pre.length * 2 + 1 - pre.length * 2 = 1 := by omega
  rw [this]; rfl
theorem flat_last (k : IntKind) (pre : List (Int × Int)) (l1 l2 : Int) : (flat k (pre ++ [(l1, l2)]))[pre.length * 2 + 1]? = some (.int k l2) := by
  rw [flat_append, List.getElem?_append_right (by rw [flat_len]; omega), flat_len]
  have : pre.length * 2 + 1 - pre.length * 2 = 1 := by omega
  rw [this]; rfl

theorem snoc_ind {α : Type} {P : List α → Prop} (h0 : P []) (hs : ∀ l x, P l → P (l ++ [x])) (l : List α) : P l := by
  have : ∀ r : List α, P r.reverse := by
    intro r
    induction r with
    | nil => exact h0
    | cons x r ih => rw [List.reverse_cons]; exact hs _ _ ih
  have h := this l.reverse
  rwa [List.reverse_reverse] at h

def foldM (ys : List (Int × Int)) : List (Int × Int) × Option (Int × Int) := ys.foldl mstep ([], none)
theorem foldM_snoc (ys : List (Int × Int)) (r : Int × Int) : foldM (ys ++ [r]) = mstep (foldM ys) r := by simp [foldM, List.foldl_append]
theorem minv_fold (ys : List (Int × Int)) : ys.Pairwise (fun a b => a.1 ≤ b.1) → MInv ys (foldM ys) := by
  refine snoc_ind (P := fun ys => ys.Pairwise (fun a b => a.1 ≤ b.1) → MInv ys (foldM ys)) ?_ ?_ ys
  · intro _; exact minv_start
  · intro ys r ih h
    rw [foldM_snoc]
    have := List.pairwise_append.mp h
    exact minv_step (ih this.1) (fun x hx => this.2.2 x hx r (by simp))
theorem len_fold (ys : List (Int × Int)) : (mlist (foldM ys).1 (foldM ys).2).length ≤ ys.length := by
  refine snoc_ind (P := fun ys => (mlist (foldM ys).1 (foldM ys).2).length ≤ ys.length) ?_ ?_ ys
  · simp [foldM, mlist]
  · intro ys r ih
    rw [foldM_snoc]
    generalize foldM ys = st at ih ⊢
    obtain ⟨pre, last⟩ := st
    simp only [mlist, mstep, List.length_append, List.length_singleton] at ih ⊢
    cases last with
    | none =>
      simp only [Option.toList, List.length_nil] at ih
      split
      · simp; omega
      · simp; omega
    | some l =>
      simp only [Option.toList, List.length_singleton] at ih
      split
      · simp; omega
      · split
        · simp; omega
        · split
          · simp; omega
          · simp; omega
theorem dom_fold (ys : List (Int × Int)) : Dom ys → Dom (mlist (foldM ys).1 (foldM ys).2) := by
  refine snoc_ind (P := fun ys => Dom ys → Dom (mlist (foldM ys).1 (foldM ys).2)) ?_ ?_ ys
  · intro _ r hr; simp [foldM, mlist] at hr
  · intro ys r ih h
    have ih := ih (fun x hx => h x (by simp [hx]))
    have hr := h r (by simp)
    rw [foldM_snoc]
    generalize foldM ys = st at ih ⊢
    obtain ⟨pre, last⟩ := st
    simp only [mlist] at ih
    unfold mstep
    split
    · exact ih
    · cases last with
      | none =>
        intro x hx
        simp only [mlist, Option.toList, List.mem_append, List.mem_singleton] at hx
        rcases hx with hx | rfl
        · exact ih x (by simp [hx])
        · exact hr
      | some l =>
        have hl := ih l (by simp)
        dsimp only
        split
        · intro x hx
          simp only [mlist, Option.toList, List.mem_append, List.mem_singleton] at hx
          rcases hx with hx | rfl
          · exact ih x (by simp [hx])
          · simp only; omega
        · intro x hx
          simp only [mlist, Option.toList, List.mem_append, List.mem_singleton] at hx
          rcases hx with (hx | rfl) | rfl
          · exact ih x (by simp [hx])
          · exact hl
          · exact hr

/-- the merge loop's relation: w2: the world behind the sort -/
def RelN (w2 : World) (ys : List (Int × Int)) (v ii : Value) (wr : World) : Prop :=
  ∃ k : Nat, ii = .int .i64 k ∧ k ≤ ys.length ∧ wr.ownsRow w2.heap.size 60 2 v (mlist (foldM (ys.take k)).1 (foldM (ys.take k)).2).length (flat .i32 (mlist (foldM (ys.take k)).1 (foldM (ys.take k)).2)) ∧ Below w2.heap.size w2 wr

theorem own_shape {w : World} {B : Nat} {e : TypeId} {v : Value} {n : Nat} {xs : List Value} (h : w.ownsRow B e 2 v n xs) (hn : 0 < n) : ∃ g cap, v = .slice (some ⟨g, 0, none⟩) n cap ∧ B ≤ g ∧ g < w.heap.size := by
  obtain ⟨hl, ⟨rfl, h0⟩ | ⟨g, cap, cur, rfl, hb, hh, h1, h2, h3, h4⟩⟩ := h
  · omega
  · exact ⟨g, cap, rfl, hb, (Array.getElem?_eq_some_iff.1 hh).1⟩
theorem own_len {w : World} {B : Nat} {e : TypeId} {v : Value} {n : Nat} {xs : List Value} (h : w.ownsRow B e 2 v n xs) : ∃ a cap, v = .slice a n cap := by
  obtain ⟨hl, ⟨rfl, h0⟩ | ⟨g, cap, cur, rfl, hb, hh, h1, h2, h3, h4⟩⟩ := h
  · subst h0; exact ⟨_, _, rfl⟩
  · exact ⟨_, _, rfl⟩

theorem st_some {ys : List (Int × Int)} {k : Nat} {r : Int × Int} (hx : ys.drop k = r :: ys.drop (k + 1)) : foldM (ys.take (k + 1)) = mstep (foldM (ys.take k)) r := by
  rw [take_snoc hx, foldM_snoc]

/-! ### slices.SortFunc at no element -/
set_option maxHeartbeats 2000000 in
theorem ins_none (p : Option Addr) (cap : Nat) (fv : Value) (w : World) :
    Calls Try.prog 53 #[.slice p 0 cap, .int .i64 0, .int .i64 0, fv] w fun e w' => e = .returned (.tuple #[]) ∧ w' = w := by
  go_enter Try.func53, Try.ntmps53
  go_wp2_with fail
  refine wp_loop_rounds 1 ?_
  rw [rounds_succ]
  go_wp2_with fail
  go_end0
  exact ⟨rfl, rfl⟩
set_option maxHeartbeats 2000000 in
theorem pdq_none (p : Option Addr) (cap : Nat) (lim : Int) (fv : Value) (w : World) :
    Calls Try.prog 49 #[.slice p 0 cap, .int .i64 0, .int .i64 0, .int .i64 lim, fv] w fun e w' => e = .returned (.tuple #[]) ∧ w' = w := by
  go_enter Try.func49, Try.ntmps49
  go_wp2_with fail
  refine wp_loop_rounds 1 ?_
  rw [rounds_succ]
  go_wp2_with (go_at_call 53; refine (ins_none _ _ _ _).mono ?_; rintro e w' ⟨rfl, rfl⟩)
  (try simp only [Exit.inBlock, Exit.then]); refine bodyPost_ret (results_none rfl _ _ _) rfl ?_
  exact ⟨rfl, rfl⟩
set_option maxHeartbeats 2000000 in
theorem len_none (w : World) : Calls Try.prog 50 #[.int .u64 0] w fun e w' => (∃ l, e = .returned (.int .i64 l)) ∧ w' = w := by
  go_enter Try.func50, Try.ntmps50
  go_wp2
  go_ret
  exact ⟨⟨_, rfl⟩, rfl⟩
set_option maxHeartbeats 2000000 in
theorem sortF_none (p : Option Addr) (cap : Nat) (fv : Value) (w : World) :
    Calls Try.prog 43 #[.slice p 0 cap, fv] w fun e w' => e = .returned (.tuple #[]) ∧ w' = w := by
  go_enter Try.func43, Try.ntmps43
  go_wp2_with (first | (go_at_call 50; refine (len_none _).mono ?_; rintro e w' ⟨⟨l, rfl⟩, rfl⟩) | (go_at_call 49; refine (pdq_none _ _ _ _ _).mono ?_; rintro e w' ⟨rfl, rfl⟩))
  go_end0
  exact ⟨rfl, rfl⟩

/-! ### Clone and SortFunc, of whatever slice -/
/-- a row that may be sorted: nil, or a row of blocks from B on -/
def Ready (B : Nat) (w : World) (a : Option Addr) (xs : List (Int × Int)) : Prop :=
  (a = none ∧ xs = []) ∨ ∃ g, a = some ⟨g, 0, none⟩ ∧ B ≤ g ∧ g < w.heap.size ∧ (∀ j, w.frozen? ⟨g, j, none⟩ = false) ∧
    ∀ i, i < xs.length → w.cell? ⟨g, 0 + i * 2, none⟩ = some (.int .i32 (xs.getD i (0, 0)).1) ∧ w.cell? ⟨g, 0 + i * 2 + 1, none⟩ = some (.int .i32 (xs.getD i (0, 0)).2)
theorem ready_own {B : Nat} {w : World} {g c : Nat} {xs : List (Int × Int)} (h : w.ownsRow B 60 2 (.slice (some ⟨g, 0, none⟩) xs.length c) xs.length (flat .i32 xs)) : Ready B w (some ⟨g, 0, none⟩) xs := by
  have hlt := h.lt g rfl
  refine .inr ⟨g, rfl, hlt.1, hlt.2, fun j => h.frozenAt j, fun i hi => ?_⟩
  have hc := flat_get .i32 xs i hi
  rw [Nat.zero_add]
  exact ⟨by rw [h.cellAt _ (by omega)]; exact hc.1, by rw [h.cellAt _ (by omega)]; exact hc.2⟩
def RetReady (B : Nat) (xs : List (Int × Int)) (e : Ending) (w' : World) : Prop := ∃ a c, e = .returned (.slice a xs.length c) ∧ Ready B w' a xs
theorem sclone_any (a : Option Addr) (cap : Nat) (xs : List (Int × Int)) (w : World) (hm : xs.length ≤ 1048576) (hr : Hid (PairRow .i32 w a xs)) (hn : Hid (a = none → xs = [])) :
    Calls Try.prog 42 #[.slice a xs.length cap] w fun e w' => RetReady w.heap.size xs e w' ∧ Hid (Below w.heap.size w w') := by
  cases a with
  | none =>
    have hx := hn.out rfl
    subst hx
    refine (sclone_nil _ cap w).mono ?_
    rintro e w' ⟨rfl, rfl⟩
    exact ⟨⟨none, 0, rfl, .inl ⟨rfl, rfl⟩⟩, Below.refl _ _⟩
  | some x =>
    refine (sclone_some x cap xs w hm hr).mono ?_
    rintro e w' ⟨⟨g, c, rfl, ho⟩, hb⟩
    exact ⟨⟨_, c, rfl, ready_own ho⟩, hb⟩
theorem sortF_all (a : Option Addr) (B cap : Nat) (xs : List (Int × Int)) (w0 w : World) (hm : xs.length ≤ 1048576) (hd : Hid (Dom xs)) (hr : Hid (Ready B w a xs)) (h0 : Hid (Below B w0 w)) (hB : B ≤ w.heap.size) :
    Calls Try.prog 43 #[.slice a xs.length cap, .func (.func 44) #[] #[]] w fun e w' => e = .returned (.tuple #[]) ∧
      (∃ ys, ys.length = xs.length ∧ Hid (ys.Perm xs) ∧ Hid (ys.Pairwise (fun a b => a.1 ≤ b.1)) ∧ Hid (PairRow .i32 w' a ys)) ∧ Hid (Below B w0 w') := by
  rcases hr.out with ⟨rfl, rfl⟩ | ⟨g, rfl, hg1, hg2, hf, hc⟩
  · refine (sortF_none none cap _ w).mono ?_
    rintro e w' ⟨rfl, rfl⟩
    exact ⟨rfl, ⟨[], rfl, List.Perm.refl _, List.Pairwise.nil, fun h => by simp at h⟩, h0⟩
  · refine (sortF_any g 0 cap xs w hd.out hm hc hf hg2).mono ?_
    rintro e w' ⟨rfl, ⟨ys, h1, h2, h3⟩, h4⟩
    exact ⟨rfl, ⟨ys, h1.length_eq, h1, h2, h3⟩, h0.out.grown h4 hB (fun k hk => by simp at hk; omega)⟩

/-! ### newSet: the bitmap -/
def asc (v : Value) (g : Nat → Nat) (j : Nat) : Value := if j = 0 then v else .int .u64 (g (j - 1) : Nat)
/-- the loop over the runs: w3: the world ahead of the set's own block Bs -/
def RelA (w3 : World) (v : Value) (M : List (Int × Int)) (ii : Value) (wr : World) : Prop :=
  ∃ (k : Nat) (g : Nat → Nat), ii = .int .i64 k ∧ k ≤ M.length ∧ wr.rowIs w3.heap.size 63 3 (asc v g) ∧ Bits g (fun x => InR (M.take k) (x : Int)) ∧ Below w3.heap.size w3 wr
/-- the loop over one run's characters: rb: the block of the run's copy -/
def RelC (w3 : World) (v : Value) (M : List (Int × Int)) (k rb : Nat) (lo hi : Int) (cc : Value) (wr : World) : Prop :=
  ∃ (c : Nat) (g : Nat → Nat), cc = .int .i32 c ∧ lo ≤ c ∧ (c : Int) ≤ hi + 1 ∧ wr.rowIs w3.heap.size 63 3 (asc v g) ∧ Bits g (fun x => InR (M.take k) (x : Int) ∨ (lo ≤ (x : Int) ∧ x < c)) ∧ Below w3.heap.size w3 wr ∧
    wr.cell? ⟨rb, 0, none⟩ = some (.int .i32 lo) ∧ wr.cell? ⟨rb, 1, none⟩ = some (.int .i32 hi) ∧ rb < wr.heap.size
theorem row_asc {w : World} {B : Nat} {v : Value} {g : Nat → Nat} {c : Nat} (h : w.rowIs B 63 3 (asc v g)) (hc : c < 128) (hg : g (c / 64) < 18446744073709551616) :
    (w.setCell ⟨B, 1 + c / 64, none⟩ (.int .u64 (bits .or .u64 (g (c / 64) : Nat) (IntKind.u64.wrap (2 ^ (c % 64)))))).rowIs B 63 3 (asc v (orBit g c)) := by
  refine (h.set (1 + c / 64) _).congr fun i hi => ?_
  dsimp only [asc, orBit]
  by_cases h0 : i = 0
  · subst h0; rw [if_neg (by omega)]; simp
  · rw [if_neg h0, if_neg h0]
    by_cases e : i = 1 + c / 64
    · subst e
      rw [if_pos rfl, or_bit _ _ hg (by omega), show 1 + c / 64 - 1 = c / 64 from by omega, if_pos rfl]
    · rw [if_neg e, if_neg (by omega)]
/-- what newSet hands back -/
def RetSet (xs : List (Int × Int)) (e : Ending) (w' : World) : Prop :=
  ∃ b M g, e = .returned (.pointer (some ⟨b, 0, none⟩)) ∧ SetAt w' b M g ∧ Canon M ∧ Dom M ∧ M.length ≤ xs.length ∧ (∀ c, InR M c ↔ InR xs c) ∧ Bits g (fun x => InR xs (x : Int))

set_option maxHeartbeats 4000000 in
theorem newSet_any (a : Option Addr) (cap : Nat) (xs : List (Int × Int)) (w : World) (hm : xs.length ≤ 1048576) (hd : Hid (Dom xs)) (hr : Hid (PairRow .i32 w a xs)) (hn : Hid (a = none → xs = [])) :
    Calls Try.prog 30 #[.slice a xs.length cap] w fun e w' => RetSet xs e w' ∧ Below w.heap.size w w' := by
  obtain ⟨i0, hi0, hz0, hz1, hz2⟩ := info_parts Try.info60
  go_enter Try.func30, Try.ntmps30
  go_wp2_with fail
  refine (sclone_any a cap xs w hm hr hn).mono ?_
  rintro e w1 ⟨⟨a1, c1, rfl, hrd⟩, B1⟩
  have HRD := hid hrd
  clear hrd
  go_wp2_with fail
  refine (sortF_all a1 w.heap.size c1 xs w w1 hm hd HRD B1 B1.out.size).mono ?_
  rintro e w2 ⟨rfl, ⟨ys, hyl, HP, HS, HR⟩, B2⟩
  have HDY : Hid (Dom ys) := fun r hr' => hd.out r (HP.out.mem_iff.mp hr')
  rw [← hyl] at hm ⊢
  have hyl' := hid hyl
  clear hyl HRD
  go_wp2_with fail
  go_loopw [4, 18] (RelN w2 ys) (fun _ i _ => ys.length - (intOf i).toNat)
  case atStart => exact ⟨0, rfl, Nat.zero_le _, World.ownsRow_nil _ _ _ _, Below.refl _ _⟩
  case round =>
    obtain ⟨k, rfl, hk, HO0, HB0⟩ := hrel
    have HO := hid HO0
    have HB := hid HB0
    have hsz := HB0.size
    clear HO0 HB0
    by_cases hlt : k < ys.length
    · obtain ⟨b, off, lo, hi, rfl, c1, c2, hbl, HX, HM⟩ := HR.out.get HB.out hlt
      obtain ⟨q1, q2, q3, q4⟩ := HDY.out (lo, hi) HM.out
      simp only at q1 q2 q3 q4
      have HSTEP := hid (st_some HX.out)
      have hlen := len_fold (ys.take k)
      have hdm := dom_fold (ys.take k) (fun r hr' => HDY.out r (List.mem_of_mem_take hr'))
      have hinv := minv_fold (ys.take k) (HS.out.sublist (List.take_sublist _ _))
      have hnone := hinv.none
      generalize foldM (ys.take k) = st at HSTEP hlen hdm HO hnone
      clear hinv
      obtain ⟨pre, last⟩ := st
      simp only [mlist] at hlen hdm hnone
      have hlk : (ys.take k).length ≤ k := List.length_take_le _ _
      have HBA := hid (HB.out.alloc hsz (.cells #[.int .i32 lo, .int .i32 hi] 60))
      by_cases t1 : hi < lo
      · have HE : Hid (foldM (ys.take (k + 1)) = (pre, last)) := by rw [HSTEP.out]; show mstep _ _ = _; simp [mstep, t1]
        obtain ⟨av, cv, ev⟩ := own_len HO.out
        subst ev
        go_wp2_with fail
        go_roundw
        case rel => exact ⟨k + 1, by go_num, hlt, by rw [HE.out]; exact HO.out.alloc _, HBA.out⟩
        case measure => simp [intOf]; omega
      · cases last with
        | none =>
          have hp : pre = [] := hnone rfl
          subst hp
          have HE : Hid (foldM (ys.take (k + 1)) = ([], some (lo, hi))) := by rw [HSTEP.out]; show mstep _ _ = _; simp [mstep, t1]
          simp only [mlist, Option.toList, List.append_nil, List.length_nil] at HO
          obtain ⟨av, cv, ev⟩ := own_len HO.out
          subst ev
          clear hlen hdm hnone HSTEP
          go_wp2_with fail
          go_quiet (fail)
          go_wp2_with (at_builtin; refine wpList_append_own _ rfl (.tmp 57) (.tmp 59) 27 rfl w2.heap.size 60 i0 (.agg #[.int .i32 0, .int .i32 0]) 2 8 Try.underlying27 hi0 hz0 hz1 hz2 rfl (by decide) _ _ _ rfl ((show ((wr.alloc (.cells #[.int .i32 lo, .int .i32 hi] 60)).drewN nq).ownsRow _ _ _ _ _ _ from HO.out.alloc _).alloc _) ⟨wr.heap.size + 1, 0, none⟩ 1 1 [.int .i32 lo, .int .i32 hi] rfl rfl (two_new_at _ _ _ _ _ (by simp)) (two_one _ _ _) (by unfold maxLen; omega) (by omega) (by simp; omega) ?_; intro v1 w3 hown1 hgrow1 hnil1)
          have HB3 := hid (below_push ((below_drewN HBA.out nq).alloc (by simp; omega) _) ((show ((wr.alloc (.cells #[.int .i32 lo, .int .i32 hi] 60)).drewN nq).ownsRow _ _ _ _ _ _ from HO.out.alloc _).alloc _) hgrow1 (by simp; omega))
          have HO3 := hid hown1
          clear hown1 hgrow1 hnil1
          go_wp2_with fail
          go_roundw
          case rel => exact ⟨k + 1, by go_num, hlt, by rw [HE.out]; exact HO3.out, HB3.out⟩
          case measure => simp [intOf]; omega
        | some l =>
          obtain ⟨l1, l2⟩ := l
          obtain ⟨z1, z2, z3, z4⟩ := hdm (l1, l2) (by simp)
          simp only at z1 z2 z3 z4
          simp only [Option.toList, List.length_append, List.length_singleton] at hlen
          have HO' : Hid (wr.ownsRow w2.heap.size 60 2 _ (pre ++ [(l1, l2)]).length (flat .i32 (pre ++ [(l1, l2)]))) := HO
          have el : (pre ++ [(l1, l2)]).length = pre.length + 1 := by simp
          rw [el] at HO'
          obtain ⟨g, cv, ev, hgB, hgl⟩ := own_shape HO'.out (by omega)
          subst ev
          have dl : wr.cell? ⟨g, pre.length * 2 + 1, none⟩ = some (.int .i32 l2) := by rw [HO'.out.cellAt _ (by omega)]; exact flat_last _ _ _ _
          have fl : wr.frozen? ⟨g, pre.length * 2 + 1, none⟩ = false := HO'.out.frozenAt _
          have hk0 : (0 : Int) < (pre.length : Int) + 1 := by omega
          clear hdm hnone HO
          by_cases t2 : lo ≤ l2 + 1
          · have HE : Hid (foldM (ys.take (k + 1)) = (pre, some (l1, max l2 hi))) := by rw [HSTEP.out]; show mstep _ _ = _; simp [mstep, t1, t2]
            clear HSTEP
            by_cases hmx : l2 < hi
            · have hmax : max l2 hi = hi := by omega
              rw [hmax] at HE
              go_wp2_with fail
              go_quiet (fail)
              go_wp2_with fail
              go_region
              all_goals
                go_wp2_with fail
                go_roundw
                case rel =>
                  have HW := ((show ((wr.alloc (.cells #[.int .i32 lo, .int .i32 hi] 60)).drewN (nq + 1)).ownsRow _ _ _ _ _ _ from HO'.out.alloc _).stored (pre.length * 2 + 1) (.int .i32 hi)).1
                  rw [flat_set] at HW
                  exact ⟨k + 1, by go_num, hlt, by rw [HE.out]; simpa [mlist] using HW, (below_drewN HBA.out (nq + 1)).setCell (p := ⟨g, pre.length * 2 + 1, none⟩) hgB (.int .i32 hi)⟩
                case measure => simp [intOf]; omega
            · have hmax : max l2 hi = l2 := by omega
              rw [hmax] at HE
              go_wp2_with fail
              go_quiet (fail)
              go_wp2_with fail
              go_region
              all_goals
                go_wp2_with fail
                go_roundw
                case rel =>
                  have HW := ((show ((wr.alloc (.cells #[.int .i32 lo, .int .i32 hi] 60)).drewN (nq + 1)).ownsRow _ _ _ _ _ _ from HO'.out.alloc _).stored (pre.length * 2 + 1) (.int .i32 l2)).1
                  rw [flat_set] at HW
                  exact ⟨k + 1, by go_num, hlt, by rw [HE.out]; simpa [mlist] using HW, (below_drewN HBA.out (nq + 1)).setCell (p := ⟨g, pre.length * 2 + 1, none⟩) hgB (.int .i32 l2)⟩
                case measure => simp [intOf]; omega
          · have HE : Hid (foldM (ys.take (k + 1)) = (pre ++ [(l1, l2)], some (lo, hi))) := by rw [HSTEP.out]; show mstep _ _ = _; simp [mstep, t1, t2]
            have hdc : decide (lo ≤ l2 + 1) = false := by simpa using t2
            clear HSTEP
            go_wp2_with fail
            go_quiet (fail)
            go_wp2_with (at_builtin; refine wpList_append_own _ rfl (.tmp 57) (.tmp 59) 27 rfl w2.heap.size 60 i0 (.agg #[.int .i32 0, .int .i32 0]) 2 8 Try.underlying27 hi0 hz0 hz1 hz2 rfl (by decide) _ _ _ rfl ((show ((wr.alloc (.cells #[.int .i32 lo, .int .i32 hi] 60)).drewN nq).ownsRow _ _ _ _ _ _ from HO'.out.alloc _).alloc _) ⟨wr.heap.size + 1, 0, none⟩ 1 1 [.int .i32 lo, .int .i32 hi] rfl rfl (two_new_at _ _ _ _ _ (by simp)) (two_one _ _ _) (by unfold maxLen; omega) (by omega) (by simp; omega) ?_; intro v1 w3 hown1 hgrow1 hnil1)
            have HB3 := hid (below_push ((below_drewN HBA.out nq).alloc (by simp; omega) _) ((show ((wr.alloc (.cells #[.int .i32 lo, .int .i32 hi] 60)).drewN nq).ownsRow _ _ _ _ _ _ from HO'.out.alloc _).alloc _) hgrow1 (by simp; omega))
            have HO3 := hid hown1
            clear hown1 hgrow1 hnil1
            go_wp2_with fail
            go_roundw
            case rel => exact ⟨k + 1, by go_num, hlt, by rw [HE.out]; simpa [mlist, flat_append, flat_cons, flat_nil] using HO3.out, HB3.out⟩
            case measure => simp [intOf]; omega
    · have hk2 : ys.take k = ys := List.take_of_length_le (by omega)
      rw [hk2] at HO
      have hinv := minv_fold ys HS.out
      have hMl := len_fold ys
      have HMD := hid (dom_fold ys HDY.out)
      have HMC := hid hinv.canon
      have HMI := hid hinv.covers
      clear hinv hk2
      generalize mlist (foldM ys).1 (foldM ys).2 = M at HO hMl HMD HMC HMI
      obtain ⟨av, cv, ev, hp, hcv, hnv⟩ := pairRow_own HO.out
      subst ev
      have HPM := hid hp
      have HNV := hid hnv
      clear hp hnv
      obtain ⟨w3, hw3⟩ : ∃ w3, w3 = wr := ⟨_, rfl⟩
      subst hw3
      go_wp2_with fail
      go_loopw [67] (RelA w3 (.slice av M.length cv) M) (fun i _ => M.length - (intOf i).toNat)
      case atStart =>
        refine ⟨0, fun _ => 0, rfl, Nat.zero_le _, ?_, bits_congr bits_zero (fun x _ => by simp [inR_nil]), (Below.refl _ _).alloc (Nat.le_refl _) _⟩
        have := World.rowIs_alloc w3 #[.slice av M.length cv, .int .u64 0, .int .u64 0] 63 (asc (.slice av M.length cv) (fun _ => 0)) (fun i hi => by match i, hi with | 0, _ => rfl | 1, _ => rfl | 2, _ => rfl)
        simpa using this
      case round =>
        obtain ⟨k', g, rfl, hk', HR0, HG0, HB0⟩ := hrel
        have HRW := hid HR0
        have HG := hid HG0
        have HB4 := hid HB0
        have hwl : w3.heap.size < wr.heap.size := HR0.lt
        clear HR0 HG0 HB0
        by_cases hlt : k' < M.length
        · obtain ⟨b', off', lo, hi, rfl, d1, d2, hbl, HX, HM'⟩ := HPM.out.get HB4.out hlt
          obtain ⟨q1, q2, q3, q4⟩ := HMD.out (lo, hi) HM'.out
          have hlh := HMC.out.2 (lo, hi) HM'.out
          simp only at q1 q2 q3 q4 hlh
          obtain ⟨w4, hw4⟩ : ∃ w4, w4 = wr := ⟨_, rfl⟩
          subst hw4
          go_wp2_with fail
          go_loopw [11] (RelC w3 (.slice (some ⟨b', off', none⟩) M.length cv) M k' w4.heap.size lo hi) (fun c _ => 1114113 - (intOf c).toNat)
          case atStart =>
            obtain ⟨n, hn⟩ := Int.eq_ofNat_of_zero_le q1
            subst hn
            refine ⟨n, g, rfl, Int.le_refl _, by omega, HRW.out.alloc _, bits_congr HG.out (fun x _ => ⟨fun h => .inl h, fun h => by rcases h with h | h; exact h; omega⟩), HB4.out.alloc (by omega) _, by simp, by simp, by simp⟩
          case round =>
            obtain ⟨c, g2, rfl, hc1, hc2, HR0, HG0, HB0, e0, e1, hrb⟩ := hrel
            have hR := hid HR0
            have hG := hid HG0
            have hB := hid HB0
            clear HR0 HG0 HB0 HRW HG HB4
            by_cases t1 : (c : Int) ≤ hi
            · by_cases t2 : (c : Int) < 128
              · have hcn : c < 128 := by omega
                have dc : wr.cell? ⟨w3.heap.size, 1 + c / 64, none⟩ = some (.int .u64 (g2 (c / 64) : Nat)) := by
                  rw [hR.out.cell (i := 1 + c / 64) (by omega)]
                  show some (asc _ g2 (1 + c / 64)) = _
                  unfold asc; rw [if_neg (by omega), show 1 + c / 64 - 1 = c / 64 from by omega]
                have fc := hR.out.frozen (1 + c / 64)
                have hg2 := (hG.out (c / 64) (by omega)).1
                have HN := hid (row_asc hR.out hcn hg2)
                have HGN : Hid (Bits (orBit g2 c) (fun x => InR (M.take k') (x : Int) ∨ (lo ≤ (x : Int) ∧ x < c + 1))) := by
                  refine bits_congr (bits_set hG.out c hcn) fun x hx => ?_
                  constructor
                  · rintro ((h1 | h1) | h1)
                    · exact .inl h1
                    · exact .inr (by omega)
                    · exact .inr (by omega)
                  · rintro (h1 | h1)
                    · exact .inl (.inl h1)
                    · by_cases ex : x = c
                      · exact .inr ex
                      · exact .inl (.inr (by omega))
                go_wp2_with fail
                go_region
                all_goals
                  go_wp2_with fail
                  go_roundw
                  case rel =>
                    refine ⟨c + 1, orBit g2 c, by go_num, by omega, by omega, HN.out, HGN.out, (hB.out.setCell (Nat.le_refl _) _).drew, ?_, ?_, ?_⟩
                    · rw [← e0]; exact World.cell?_setCell_other _ _ _ _ (by intro h; injection h; omega)
                    · rw [← e1]; exact World.cell?_setCell_other _ _ _ _ (by intro h; injection h; omega)
                    · simpa [World.setCell] using hrb
                  case measure => simp [intOf]; omega
              · have hdf : decide ((c : Int) < 128) = false := by simpa using t2
                have HGE : Hid (Bits g2 (fun x => InR (M.take (k' + 1)) (x : Int))) := by
                  refine bits_congr hG.out fun x hx => ?_
                  rw [take_snoc HX.out, inR_append, inR_cons]
                  simp only [inR_nil, or_false]
                  constructor
                  · rintro (h1 | h1)
                    · exact .inl h1
                    · exact .inr (by omega)
                  · rintro (h1 | h1)
                    · exact .inl h1
                    · exact .inr (by omega)
                go_wp2_with fail
                go_roundw
                case rel => exact ⟨k' + 1, g2, by go_num, hlt, hR.out, HGE.out, hB.out⟩
                case measure => simp [intOf]; omega
            · have hdf : decide ((c : Int) ≤ hi) = false := by simpa using t1
              have HGE : Hid (Bits g2 (fun x => InR (M.take (k' + 1)) (x : Int))) := by
                refine bits_congr hG.out fun x hx => ?_
                rw [take_snoc HX.out, inR_append, inR_cons]
                simp only [inR_nil, or_false]
                constructor
                · rintro (h1 | h1)
                  · exact .inl h1
                  · exact .inr (by omega)
                · rintro (h1 | h1)
                  · exact .inl h1
                  · exact .inr (by omega)
              go_wp2_with fail
              go_roundw
              case rel => exact ⟨k' + 1, g2, by go_num, hlt, hR.out, HGE.out, hB.out⟩
              case measure => simp [intOf]; omega
        · have hk3 : k' = M.length := by omega
          subst hk3
          rw [List.take_length] at HG
          go_wp2_with fail
          go_ret
          have HWB : Below w.heap.size w wr := (B2.out.trans (HB.out.mono B2.out.size)).trans (HB4.out.mono (Nat.le_trans B2.out.size hsz))
          refine ⟨⟨w3.heap.size, M, g, rfl, ⟨hwl, ⟨av, cv, HRW.out.cell (i := 0) (by omega), HPM.out.below HB4.out, HNV.out⟩, HRW.out.cell (i := 1) (by omega), HRW.out.cell (i := 2) (by omega)⟩, HMC.out, HMD.out, by rw [← hyl'.out]; exact hMl, fun c => (HMI.out c).trans (inR_perm HP.out c), bits_congr HG.out fun x _ => (HMI.out x).trans (inR_perm HP.out x)⟩, HWB⟩
end Go.Proofs.Qxb6605195a
