import Derived.Test.Qxb6605294aRead
import Derived.Laws.AppendOwnNone
set_option maxRecDepth 100000
namespace Go.Proofs.Qxb6605294a
open Go.ChangeShapes Go.WideShapes Go.ChangeAt Go.RowKit
set_option linter.unusedVariables false

theorem below_push {B : Nat} {w wa w' : World} {e : TypeId} {size n : Nat} {v : Value} {l : List Value} (HB : Below B w wa) (hown : wa.ownsRow B e size v n l) (hg : wa.grownBy w' v.ownBlock) (hB : B ≤ wa.heap.size) : Below B w w' :=
  HB.grown hg hB (fun k hk => (hown.lt k hk).1)
theorem retRow_own {α : Type} {enc : α → Value} {d : α} {B : Nat} {e : TypeId} {xs : List α} {v : Value} {w' : World} (h : w'.ownsRow B e 1 v xs.length (xs.map enc)) : RetRow enc d B xs (.returned v) w' := by
  obtain ⟨hl, ⟨rfl, h0⟩ | ⟨g, cap, cur, rfl, hb, hh, h1, h2, h3, h4⟩⟩ := h
  · have := List.length_eq_zero_iff.1 h0
    subst this
    exact ⟨none, 0, rfl, by simp, row_nil _ _, fun _ => ⟨rfl, rfl⟩, fun x h => (by cases h)⟩
  · refine ⟨_, _, rfl, h1, ?_, fun h => (by cases h), fun x h => (by cases h; exact ⟨hb, (Array.getElem?_eq_some_iff.1 hh).1⟩)⟩
    refine fun _ => ⟨g, 0, rfl, fun i hi => ?_⟩
    simp only [World.cell?, hh]
    have : cur.toList[i]? = (xs.map enc)[i]? := by
      rw [← h4, List.getElem?_take]; simp [hi]
    simp only [Nat.zero_add]
    simpa [List.getElem?_eq_getElem hi, List.getD_eq_getElem?_getD] using this
theorem add_at (b off i : Nat) : (⟨b, off, none⟩ : Addr).add i = ⟨b, off + i, none⟩ := by unfold Addr.add; split <;> simp_all
theorem row_news {α : Type} {enc : α → Value} {d : α} {w : World} {x : Addr} {xs : List α} (h : Row enc d w (some x) xs) : ∀ j u, (xs.map enc)[j]? = some u → w.cell? (x.add j) = some u := by
  intro j u hj
  rw [List.getElem?_map] at hj
  have hjl : j < xs.length := by
    rcases Nat.lt_or_ge j xs.length with h | h
    · exact h
    · rw [List.getElem?_eq_none h] at hj; simp at hj
  obtain ⟨b, off, e, hc⟩ := h (by omega)
  cases e
  have := hc j hjl
  rw [List.getD_eq_getElem?_getD, List.getElem?_eq_getElem hjl] at this
  rw [List.getElem?_eq_getElem hjl] at hj
  simp only [Option.map_some, Option.some.injEq] at hj
  subst hj
  rw [add_at]; exact this
/-- append(all, ls...) of rows of one-cell values -/
theorem wpList_append_rows {α : Type} {enc : α → Value} {d : α} (hone : ∀ x, (enc x).oneCell' = true) {w : World} {ops : Array Oper} {rest : List Oper} {o : Oper} {a : Act} {Q : Exit → Act → World → Prop} (hgd : o.guard = none) (s x : Operand) (T E : TypeId) (z : Value) (by8 : Nat) (hb8 : by8 ≤ 8)
    (hinfo : (Try.prog.info? E).map (fun i => (i.zero, i.size, i.bytes)) = some (some z, 1, by8)) (hz : z.cells.size = 1) (hT : Try.prog.underlying T = some (.slice E))
    (ho : o.op = .call { callee := .builtin .append, args := #[s, x], argTypes := #[T, T] })
    (base : Nat) (v : Value) (zs : List α) (hs : a.eval s = v) (hown : w.ownsRow base E 1 v zs.length (zs.map enc))
    (ad : Option Addr) (c : Nat) (L : List α) (hx : a.eval x = .slice ad L.length c) (hI : Row enc d w ad L) (hN : ad = none → L = [] ∧ c = 0)
    (h63 : zs.length + L.length ≤ 1000000000) (hbase : base ≤ w.heap.size)
    (h : ∀ v' w', w'.ownsRow base E 1 v' (zs ++ L).length ((zs ++ L).map enc) → w.grownBy w' v.ownBlock → (v' = .slice none 0 0 ↔ v = .slice none 0 0 ∧ L.length = 0) → wpList Try.prog ops Q rest (a.put o.dst v') w') :
    wpList Try.prog ops Q (o :: rest) a w := by
  obtain ⟨i0, hi0, hz0, hz1, hz2⟩ := info_parts hinfo
  cases ad with
  | none =>
    obtain ⟨rfl, rfl⟩ := hN rfl
    refine wpList_append_own_none hgd s x T ho base E i0 1 hT hi0 v zs.length (zs.map enc) hs hown hx ?_
    refine h v w ?_ ⟨rfl, rfl, rfl, Nat.le_refl _, fun _ _ _ => rfl⟩ (by simp)
    rw [List.append_nil]; exact hown
  | some ad =>
    refine wpList_append_own_at _ hgd s x T ho base E i0 z 1 by8 hT hi0 hz0 hz1 hz2 hz (by decide) v zs.length _ hs hown ad L.length c (L.map enc) hx (by simp) (row_news hI) ?_ (by unfold maxLen; omega) ?_ hbase ?_
    · intro u hu
      simp only [List.mem_map] at hu
      obtain ⟨y, _, rfl⟩ := hu
      exact hone y
    · have := Nat.mul_le_mul_left (zs.length + L.length) hb8
      omega
    · intro v' w' h1 h2 h3 _
      refine h v' w' ?_ h2 h3
      rw [List.length_append, List.map_append]; exact h1

set_option maxHeartbeats 1000000 in
theorem sclone3_any (a : Option Addr) (cap : Nat) (xs : List Int) (w : World) (hm : xs.length ≤ 100000000) (hr : Hid (IRow w a xs)) (hn : Hid (a = none → xs = [] ∧ cap = 0)) :
    Calls Try.prog 69 #[.slice a xs.length cap] w fun e w' => RetRow (Value.int .i64) 0 w.heap.size xs e w' ∧ Hid (Below w.heap.size w w') := by
  have hnl := eqNil22
  cases a with
  | none =>
    obtain ⟨rfl, rfl⟩ := hn.out rfl
    go_enter Try.func69, Try.ntmps69
    go_wp2_with fail
    go_ret
    exact ⟨⟨none, 0, rfl, by simp, row_nil _ _, fun _ => ⟨rfl, rfl⟩, fun x h => (by cases h)⟩, Below.refl _ _⟩
  | some x =>
    go_enter Try.func69, Try.ntmps69
    go_wp2_with (at_builtin; refine wpList_append_rows (enc := Value.int .i64) (d := 0) (fun _ => rfl) rfl (.tmp 5) (.tmp 6) 22 3 (.int .i64 0) 8 (by decide) Try.info3 rfl Try.underlying22 rfl w.heap.size _ [] rfl (World.ownsRow_made w #[] 0 (Nat.le_refl _) (Nat.zero_le _) (by simp)) (some x) cap xs rfl (hr.out.below ((Below.refl w.heap.size w).alloc (Nat.le_refl _) _)) (fun h => by cases h) (by simp; omega) (by simp) ?_; intro v1 w1 hown1 hgrow1 hnil1)
    have HO := hid hown1
    have HB := hid (below_push (size := 1) ((Below.refl w.heap.size w).alloc (Nat.le_refl _) _) (World.ownsRow_made w #[] 0 (Nat.le_refl _) (Nat.zero_le _) (by simp)) hgrow1 (by simp))
    clear hown1 hgrow1 hnil1
    go_wp2_with fail
    go_ret
    exact ⟨retRow_own HO.out, HB⟩
set_option maxHeartbeats 1000000 in
theorem sclone4_any (a : Option Addr) (cap : Nat) (xs : List Bool) (w : World) (hm : xs.length ≤ 100000000) (hr : Hid (Row Value.bool false w a xs)) (hn : Hid (a = none → xs = [] ∧ cap = 0)) :
    Calls Try.prog 66 #[.slice a xs.length cap] w fun e w' => RetRow Value.bool false w.heap.size xs e w' ∧ Hid (Below w.heap.size w w') := by
  have hnl := eqNil37
  cases a with
  | none =>
    obtain ⟨rfl, rfl⟩ := hn.out rfl
    go_enter Try.func66, Try.ntmps66
    go_wp2_with fail
    go_ret
    exact ⟨⟨none, 0, rfl, by simp, row_nil _ _, fun _ => ⟨rfl, rfl⟩, fun x h => (by cases h)⟩, Below.refl _ _⟩
  | some x =>
    go_enter Try.func66, Try.ntmps66
    go_wp2_with (at_builtin; refine wpList_append_rows (enc := Value.bool) (d := false) (fun _ => rfl) rfl (.tmp 5) (.tmp 6) 37 4 (.bool false) 1 (by decide) Try.info4 rfl Try.underlying37 rfl w.heap.size _ [] rfl (World.ownsRow_made w #[] 0 (Nat.le_refl _) (Nat.zero_le _) (by simp)) (some x) cap xs rfl (hr.out.below ((Below.refl w.heap.size w).alloc (Nat.le_refl _) _)) (fun h => by cases h) (by simp; omega) (by simp) ?_; intro v1 w1 hown1 hgrow1 hnil1)
    have HO := hid hown1
    have HB := hid (below_push (size := 1) ((Below.refl w.heap.size w).alloc (Nat.le_refl _) _) (World.ownsRow_made w #[] 0 (Nat.le_refl _) (Nat.zero_le _) (by simp)) hgrow1 (by simp))
    clear hown1 hgrow1 hnil1
    go_wp2_with fail
    go_ret
    exact ⟨retRow_own HO.out, HB⟩

/-! ### newRegion -/
theorem Try.info61 : (Try.prog.info? 61).map (fun i => (i.zero, i.size, i.bytes)) = some (some (.int .u32 0), 1, 4) := by kernel_rfl
def RegAt (w : World) (rb n : Nat) : Prop := ∃ at' c, w.cell? ⟨rb, 0, none⟩ = some (.slice none 0 0) ∧ w.cell? ⟨rb, 1, none⟩ = some (.slice at' n c) ∧ w.cell? ⟨rb, 2, none⟩ = some (.int .u32 1) ∧ Row (Value.int .u32) 0 w at' (List.replicate n 0)
theorem RegAt.below {w w' : World} {rb n : Nat} (h : RegAt w rb n) (hb : Below w.heap.size w w') : RegAt w' rb n := by
  obtain ⟨at', c, h0, h1, h2, h3⟩ := h
  exact ⟨at', c, by rw [hb.cell (p := ⟨rb, 0, none⟩) (cell_lt' h0)]; exact h0, by rw [hb.cell (p := ⟨rb, 1, none⟩) (cell_lt' h1)]; exact h1, by rw [hb.cell (p := ⟨rb, 2, none⟩) (cell_lt' h2)]; exact h2, h3.below hb⟩
set_option maxHeartbeats 1000000 in
theorem region_any (n : Nat) (w : World) (hm : n ≤ 100000000) :
    Calls Try.prog 67 #[.int .i64 n] w fun e w' => (∃ rb, e = .returned (.pointer (some ⟨rb, 0, none⟩)) ∧ Hid (RegAt w' rb n) ∧ Hid (w.heap.size ≤ rb)) ∧ Hid (Below w.heap.size w w') := by
  obtain ⟨i0, hi0, hz0, hz1, hz2⟩ := info_parts Try.info61
  go_enter Try.func67, Try.ntmps67
  go_wp2_with (at_make; refine wpList_make_full _ rfl _ _ 60 rfl w.heap.size 61 i0 (.int .u32 0) 1 Try.underlying60 hi0 hz0 hz1 .i64 .i64 (n : Int) (n : Int) n rfl rfl rfl rfl (by rw [hz2]; omega) (by unfold maxLen; omega) (Nat.le_refl _) ?_; intro w1 hown hgrow)
  have HB1 : Hid (Below w.heap.size w w1) := (Below.refl _ _).grown hgrow (Nat.le_refl _) (by simp)
  have HR1 := hid (rowIs_zero rfl hown)
  have hsz := HB1.out.size
  clear hown hgrow
  go_wp2_with fail
  go_ret
  have hrow : Row (Value.int .u32) 0 (w1.alloc (.cells #[.slice none 0 0, .slice (some ⟨w.heap.size, 0, none⟩) n n, .int .u32 1] 106)) (some ⟨w.heap.size, 0, none⟩) (List.replicate n 0) :=
    row_filled (f := fun _ => .int .u32 0) (e := 61) (by rw [List.length_replicate]; exact HR1.out.alloc _) (fun i hi => by
      rw [List.length_replicate] at hi
      simp [List.getD_eq_getElem?_getD, hi])
  exact ⟨⟨w1.heap.size, rfl, ⟨_, n, by simp [go_sem], by simp [go_sem], by simp [go_sem], hrow⟩, hsz⟩, HB1.out.alloc hsz _⟩
end Go.Proofs.Qxb6605294a
