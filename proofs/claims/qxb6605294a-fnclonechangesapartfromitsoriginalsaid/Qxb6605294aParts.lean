import Derived.Test.Qxb6605294aVals
import Derived.Test.Qxb6605294aCloneL
set_option maxRecDepth 100000
namespace Go.Proofs.Qxb6605294a
open Go.ChangeShapes Go.WideShapes Go.ChangeAt Go.RowKit
set_option linter.unusedVariables false

theorem own_below {w w' : World} {B : Nat} {e : TypeId} {size n : Nat} {v : Value} {l : List Value} (h : w.ownsRow B e size v n l) (hb : Below w.heap.size w w') : w'.ownsRow B e size v n l := by
  obtain ⟨hl, ⟨hv, h0⟩ | ⟨g, cap, cur, hv, hB, hh, h1⟩⟩ := h
  · exact ⟨hl, .inl ⟨hv, h0⟩⟩
  · exact ⟨hl, .inr ⟨g, cap, cur, hv, hB, (hb.block g (Array.getElem?_eq_some_iff.1 hh).1).trans hh, h1⟩⟩
theorem row_below {w w' : World} {b n : Nat} {t : TypeId} {f : Nat → Value} (h : w.rowIs b t n f) (hb : Below w.heap.size w w') : w'.rowIs b t n f := h.of_block (hb.block b h.lt)
theorem rowIs_ne {w : World} {b b' n n' : Nat} {t t' : TypeId} {f f' : Nat → Value} (h : w.rowIs b t n f) (h' : w.rowIs b' t' n' f') (ht : t ≠ t') : b ≠ b' := by
  rintro rfl
  obtain ⟨c, h1, _⟩ := h
  obtain ⟨c', h2, _⟩ := h'
  rw [h1] at h2
  cases h2
  exact ht rfl
theorem fm_ne {w : World} {b b' n n' : Nat} {t : TypeId} {f : Nat → Value} {D : DU} (h : FM w b n D) (h' : w.rowIs b' t n' f) : b ≠ b' := by
  rintro rfl
  obtain ⟨es, clock, h1, _⟩ := h
  obtain ⟨c', h2, _⟩ := h'
  rw [h1] at h2
  cases h2
/-- the region that newRegion makes -/
def RegT (w : World) (B rb n : Nat) : Prop := ∃ ab, B ≤ rb ∧ B ≤ ab ∧ w.rowIs rb 106 3 (fun i => #[.slice none 0 0, .slice (some ⟨ab, 0, none⟩) n n, .int .u32 1].getD i undef) ∧ w.rowIs ab 61 n (fun _ => .int .u32 0)
theorem RegT.below {w w' : World} {B rb n : Nat} (h : RegT w B rb n) (hb : Below w.heap.size w w') : RegT w' B rb n := by
  obtain ⟨ab, h1, h2, h3, h4⟩ := h
  exact ⟨ab, h1, h2, row_below h3 hb, row_below h4 hb⟩
set_option maxHeartbeats 1000000 in
theorem region_tag (n : Nat) (w : World) (hm : n ≤ 100000000) :
    Calls Try.prog 67 #[.int .i64 n] w fun e w' => (∃ rb, e = .returned (.pointer (some ⟨rb, 0, none⟩)) ∧ Hid (RegT w' w.heap.size rb n)) ∧ Hid (Below w.heap.size w w') := by
  obtain ⟨i0, hi0, hz0, hz1, hz2⟩ := info_parts Try.info61
  go_enter Try.func67, Try.ntmps67
  go_wp2_with (at_make; refine wpList_make_full _ rfl _ _ 60 rfl w.heap.size 61 i0 (.int .u32 0) 1 Try.underlying60 hi0 hz0 hz1 .i64 .i64 (n : Int) (n : Int) n rfl rfl rfl rfl (by rw [hz2]; omega) (by unfold maxLen; omega) (Nat.le_refl _) ?_; intro w1 hown hgrow)
  have HB1 : Hid (Below w.heap.size w w1) := (Below.refl _ _).grown hgrow (Nat.le_refl _) (by simp)
  have HR1 := hid (rowIs_zero rfl hown)
  have hsz := HB1.out.size
  clear hown hgrow
  go_wp2_with fail
  go_ret
  exact ⟨⟨w1.heap.size, rfl, ⟨w.heap.size, hsz, Nat.le_refl _, World.rowIs_alloc w1 #[.slice none 0 0, .slice (some ⟨w.heap.size, 0, none⟩) n n, .int .u32 1] 106 _ (fun i hi => arr_getD hi), HR1.out.alloc _⟩⟩, HB1.out.alloc hsz _⟩
set_option maxHeartbeats 1000000 in
theorem sclone4_own (a : Option Addr) (cap : Nat) (xs : List Bool) (w : World) (hm : xs.length ≤ 100000000) (hr : Hid (Row Value.bool false w a xs)) (hn : Hid (a = none → xs = [] ∧ cap = 0)) :
    Calls Try.prog 66 #[.slice a xs.length cap] w fun e w' => (∃ v, e = .returned v ∧ Hid (w'.ownsRow w.heap.size 4 1 v xs.length (xs.map Value.bool))) ∧ Hid (Below w.heap.size w w') := by
  have hnl := eqNil37
  cases a with
  | none =>
    obtain ⟨rfl, rfl⟩ := hn.out rfl
    go_enter Try.func66, Try.ntmps66
    go_wp2_with fail
    go_ret
    exact ⟨⟨_, rfl, ⟨by simp, .inl ⟨rfl, rfl⟩⟩⟩, Below.refl _ _⟩
  | some x =>
    go_enter Try.func66, Try.ntmps66
    go_wp2_with (at_builtin; refine wpList_append_rows (enc := Value.bool) (d := false) (fun _ => rfl) rfl (.tmp 5) (.tmp 6) 37 4 (.bool false) 1 (by decide) Try.info4 rfl Try.underlying37 rfl w.heap.size _ [] rfl (World.ownsRow_made w #[] 0 (Nat.le_refl _) (Nat.zero_le _) (by simp)) (some x) cap xs rfl (hr.out.below ((Below.refl w.heap.size w).alloc (Nat.le_refl _) _)) (fun h => by cases h) (by simp; omega) (by simp) ?_; intro v1 w1 hown1 hgrow1 hnil1)
    have HO := hid hown1
    have HB := hid (below_push (size := 1) ((Below.refl w.heap.size w).alloc (Nat.le_refl _) _) (World.ownsRow_made w #[] 0 (Nat.le_refl _) (Nat.zero_le _) (by simp)) hgrow1 (by simp))
    clear hown1 hgrow1 hnil1
    go_wp2_with fail
    go_ret
    exact ⟨⟨_, rfl, HO⟩, HB⟩
set_option maxHeartbeats 1000000 in
theorem sclone3_own (a : Option Addr) (cap : Nat) (xs : List Int) (w : World) (hm : xs.length ≤ 100000000) (hr : Hid (IRow w a xs)) (hn : Hid (a = none → xs = [] ∧ cap = 0)) :
    Calls Try.prog 69 #[.slice a xs.length cap] w fun e w' => (∃ v, e = .returned v ∧ Hid (w'.ownsRow w.heap.size 3 1 v xs.length (xs.map (Value.int .i64)))) ∧ Hid (Below w.heap.size w w') := by
  have hnl := eqNil22
  cases a with
  | none =>
    obtain ⟨rfl, rfl⟩ := hn.out rfl
    go_enter Try.func69, Try.ntmps69
    go_wp2_with fail
    go_ret
    exact ⟨⟨_, rfl, ⟨by simp, .inl ⟨rfl, rfl⟩⟩⟩, Below.refl _ _⟩
  | some x =>
    go_enter Try.func69, Try.ntmps69
    go_wp2_with (at_builtin; refine wpList_append_rows (enc := Value.int .i64) (d := 0) (fun _ => rfl) rfl (.tmp 5) (.tmp 6) 22 3 (.int .i64 0) 8 (by decide) Try.info3 rfl Try.underlying22 rfl w.heap.size _ [] rfl (World.ownsRow_made w #[] 0 (Nat.le_refl _) (Nat.zero_le _) (by simp)) (some x) cap xs rfl (hr.out.below ((Below.refl w.heap.size w).alloc (Nat.le_refl _) _)) (fun h => by cases h) (by simp; omega) (by simp) ?_; intro v1 w1 hown1 hgrow1 hnil1)
    have HO := hid hown1
    have HB := hid (below_push (size := 1) ((Below.refl w.heap.size w).alloc (Nat.le_refl _) _) (World.ownsRow_made w #[] 0 (Nat.le_refl _) (Nat.zero_le _) (by simp)) hgrow1 (by simp))
    clear hown1 hgrow1 hnil1
    go_wp2_with fail
    go_ret
    exact ⟨⟨_, rfl, HO⟩, HB⟩
/-- what the clone's struct holds when it is made -/
structure Parts (w : World) (B n : Nat) (pl : List Bool) (h F p P q rb : Nat) (v6 : Value) : Prop where
  bh : B ≤ h
  bF : B ≤ F
  bp : B ≤ p
  bP : B ≤ P
  bq : B ≤ q
  rh : w.rowIs h 99 n (fun _ => .slice none 0 0)
  rF : FM w F 0 (.map [])
  rp : w.rowIs p 22 n (fun _ => .slice none 0 0)
  r6 : w.ownsRow B 4 1 v6 pl.length (pl.map Value.bool)
  rP : w.rowIs P 100 n (fun _ => .int .i64 0)
  rq : w.rowIs q 4 n (fun _ => .bool false)
  rr : RegT w B rb n
  n6 : ∀ b, v6.ownBlock = some b → b ≠ h ∧ b ≠ F ∧ b ≠ p ∧ b ≠ P ∧ b ≠ q
theorem Parts.below {w w' : World} {B n : Nat} {pl : List Bool} {h F p P q rb : Nat} {v6 : Value} (H : Parts w B n pl h F p P q rb v6) (hb : Below w.heap.size w w') : Parts w' B n pl h F p P q rb v6 :=
  ⟨H.bh, H.bF, H.bp, H.bP, H.bq, row_below H.rh hb, H.rF.below hb, row_below H.rp hb, own_below H.r6 hb, row_below H.rP hb, row_below H.rq hb, H.rr.below hb, H.n6⟩
def blkOf : Value → Nat → Prop
  | .slice (some a) _ _, b => b = a.block
  | .map (some m), b => b = m
  | _, _ => False
def blkV (i : Nat) (v : Value) (b : Nat) : Prop := (i = 1 ∨ i = 7 ∨ i = 9 ∨ i = 14 ∨ i = 16 ∨ i = 18) ∧ blkOf v b
theorem blkV_no {i : Nat} {v : Value} {b : Nat} (h : ¬ (i = 1 ∨ i = 7 ∨ i = 9 ∨ i = 14 ∨ i = 16 ∨ i = 18)) : ¬ blkV i v b := fun H => h H.1
section
variable (B g n fb : Nat) (pl : List Bool) (v13 : Value)
/-- what each operation of clone's second region yields -/
def V62 (i : Nat) (v : Value) (w : World) : Prop :=
  match i with
  | 0 | 8 | 15 | 17 | 19 => v = .int .i64 n
  | 2 | 3 | 10 | 11 => v = .pointer (some ⟨g, 0, none⟩)
  | 4 => v = .pointer (some ⟨g, 4, none⟩)
  | 12 => v = .pointer (some ⟨g, 6, none⟩)
  | 5 => v = .map (some fb)
  | 6 => ∃ k : Int, v = .int .i64 k
  | 13 => v = v13
  | 1 => ∃ b, v = .slice (some ⟨b, 0, none⟩) n n ∧ B ≤ b ∧ w.rowIs b 99 n (fun _ => .slice none 0 0)
  | 7 => ∃ b, v = .map (some b) ∧ B ≤ b ∧ FM w b 0 (.map [])
  | 9 => ∃ b, v = .slice (some ⟨b, 0, none⟩) n n ∧ B ≤ b ∧ w.rowIs b 22 n (fun _ => .slice none 0 0)
  | 14 => w.ownsRow B 4 1 v pl.length (pl.map Value.bool)
  | 16 => ∃ b, v = .slice (some ⟨b, 0, none⟩) n n ∧ B ≤ b ∧ w.rowIs b 100 n (fun _ => .int .i64 0)
  | 18 => ∃ b, v = .slice (some ⟨b, 0, none⟩) n n ∧ B ≤ b ∧ w.rowIs b 4 n (fun _ => .bool false)
  | 20 => ∃ rb, v = .pointer (some ⟨rb, 0, none⟩) ∧ RegT w B rb n
  | 21 => ∃ h F p P q rb v6, v = .agg #[.slice (some ⟨h, 0, none⟩) n n, .slice none 0 0, .slice none 0 0, .slice none 0 0, .map (some F), .slice (some ⟨p, 0, none⟩) n n, v6, .slice (some ⟨P, 0, none⟩) n n, .slice (some ⟨q, 0, none⟩) n n, .pointer (some ⟨rb, 0, none⟩)] ∧ Parts w B n pl h F p P q rb v6
  | _ => ∃ c h F p P q rb v6, v = .pointer (some ⟨c, 0, none⟩) ∧ B ≤ c ∧ w.rowIs c 98 10 (gf (.slice (some ⟨h, 0, none⟩) n n) (.slice none 0 0) (.slice none 0 0) (.slice none 0 0) (.map (some F)) (.slice (some ⟨p, 0, none⟩) n n) v6 (.slice (some ⟨P, 0, none⟩) n n) (.slice (some ⟨q, 0, none⟩) n n) (.pointer (some ⟨rb, 0, none⟩))) ∧ Parts w B n pl h F p P q rb v6 ∧ ∀ b, v6.ownBlock = some b → b ≠ c
end
theorem V62_below {B g n fb : Nat} {pl : List Bool} {v13 : Value} (i : Nat) (v : Value) (w w' : World) (hb : Below w.heap.size w w') (h : V62 B g n fb pl v13 i v w) : V62 B g n fb pl v13 i v w' := by
  unfold V62 at h ⊢
  split
  all_goals try exact h
  · obtain ⟨b, h1, h2, h3⟩ := h
    exact ⟨b, h1, h2, row_below h3 hb⟩
  · obtain ⟨b, h1, h2, h3⟩ := h
    exact ⟨b, h1, h2, h3.below hb⟩
  · obtain ⟨b, h1, h2, h3⟩ := h
    exact ⟨b, h1, h2, row_below h3 hb⟩
  · exact own_below h hb
  · obtain ⟨b, h1, h2, h3⟩ := h
    exact ⟨b, h1, h2, row_below h3 hb⟩
  · obtain ⟨b, h1, h2, h3⟩ := h
    exact ⟨b, h1, h2, row_below h3 hb⟩
  · obtain ⟨rb, h1, h2⟩ := h
    exact ⟨rb, h1, h2.below hb⟩
  · obtain ⟨h, F, p, P, q, rb, v6, h1, h2⟩ := h
    exact ⟨h, F, p, P, q, rb, v6, h1, h2.below hb⟩
  · split at h
    all_goals try (exfalso; simp_all; done)
    obtain ⟨c, h, F, p, P, q, rb, v6, h1, h2, h3, h4, h5⟩ := h
    exact ⟨c, h, F, p, P, q, rb, v6, h1, h2, row_below h3 hb, h4.below hb, h5⟩
theorem step_value {P : Program} {ops : Array Oper} {o : Oper} {a : Act} {w w' : World} {K : Act → World → Prop} {Q : Exit → Act → World → Prop} {E : Prop} {v : Value} (hg : o.guard = none) (hr : (execOp a.eval o).run P w = .ok (.value v) w') (hK : K (a.put o.dst v) w') :
    if Region.wanted o (yielded ops a.tmps) = true then Oper.wp P o a w K Q else E := by
  have hw : Region.wanted o (yielded ops a.tmps) = true := by simp [Region.wanted, hg]
  rw [if_pos hw]
  unfold Oper.wp
  rw [hr]
  exact hK
theorem step_enter {P : Program} {ops : Array Oper} {o : Oper} {a : Act} {w : World} {K : Act → World → Prop} {Q : Exit → Act → World → Prop} {E : Prop} {f : FuncId} {args : Array Value} {R : Ending → World → Prop} (hg : o.guard = none) (hr : (execOp a.eval o).run P w = .ok (.enter f args) w) (hc : Calls P f args w R) (hK : ∀ e w', R e w' → ∃ v, e = .returned v ∧ K (a.put o.dst v) w') :
    if Region.wanted o (yielded ops a.tmps) = true then Oper.wp P o a w K Q else E := by
  have hw : Region.wanted o (yielded ops a.tmps) = true := by simp [Region.wanted, hg]
  rw [if_pos hw]
  unfold Oper.wp
  rw [hr]
  refine hc.mono fun e w' he => ?_
  obtain ⟨v, rfl, h⟩ := hK e w' he
  exact h
end Go.Proofs.Qxb6605294a
