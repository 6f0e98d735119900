import Derived.Test.Qxb6605195aUniq2
import Derived.Laws.AppendOwnNone
set_option maxRecDepth 100000
namespace Go.Proofs.Qxb6605195a
open Go.ChangeShapes Go.WideShapes Go.ChangeAt Go.RowKit Plain
set_option linter.unusedVariables false

theorem Try.info3 : (Try.prog.info? 3).map (fun i => (i.zero, i.size, i.bytes)) = some (some (.int .i64 0), 1, 8) := by kernel_rfl
theorem one_i64 (z : Int) : ∀ u ∈ [Value.int .i64 z], u.oneCell' = true := by intro u hu; simp at hu; subst hu; rfl
def plusW (X Y : List Int) : List Int := X.flatMap fun x => Y.map fun y => wrap64 (x + y)
def rowW (x : Int) (Y : List Int) : List Int := Y.map fun y => wrap64 (x + y)
theorem plusW_snoc (X Y : List Int) (x : Int) : plusW (X ++ [x]) Y = plusW X Y ++ rowW x Y := by simp [plusW, rowW]
theorem rowW_snoc (x : Int) (Y : List Int) (y : Int) : rowW x (Y ++ [y]) = rowW x Y ++ [wrap64 (x + y)] := by simp [rowW]
theorem plusW_len (X Y : List Int) : (plusW X Y).length = X.length * Y.length := by
  induction X with
  | nil => simp [plusW]
  | cons x X ih =>
    have : plusW (x :: X) Y = rowW x Y ++ plusW X Y := by simp [plusW, rowW]
    rw [this, List.length_append, ih, List.length_cons, Nat.succ_mul]
    simp [rowW]; omega
theorem rowW_len (x : Int) (Y : List Int) : (rowW x Y).length = Y.length := by simp [rowW]

set_option maxHeartbeats 2000000 in
theorem sums_any (a1 a2 : Option Addr) (c1 c2 : Nat) (X Y : List Int) (w : World) (hx : X.length ≤ 256) (hy : Y.length ≤ 256) (h1 : Hid (IntRow .i64 w a1 X)) (h2 : Hid (IntRow .i64 w a2 Y)) :
    Calls Try.prog 45 #[.slice a1 X.length c1, .slice a2 Y.length c2] w fun e w' => RetInts w.heap.size (uniq (plusW X Y)) (decide ((uniq (plusW X Y)).length ≤ 256)) e w' ∧ Hid (Below w.heap.size w w') := by
  obtain ⟨i0, hi0, hz0, hz1, hz2⟩ := info_parts Try.info3
  go_enter Try.func45, Try.ntmps45
  go_wp2_with fail
  go_loopw [6, 13] (fun v i wr => ∃ (k : Nat) (zs : List Int), k ≤ X.length ∧ i = .int .i64 k ∧ zs.length ≤ k * 256 ∧ Hid (zs = plusW (X.take k) Y) ∧ Hid (wr.ownsRow w.heap.size 3 1 v zs.length (zs.map (Value.int .i64))) ∧ Hid (Below w.heap.size w wr)) (fun _ i _ => X.length - (intOf i).toNat)
  case atStart => exact ⟨0, [], Nat.zero_le _, rfl, by simp, by show _ = _; simp [plusW], World.ownsRow_nil _ _ _ _, Below.refl _ _⟩
  case round =>
    obtain ⟨k, zs, hk, rfl, hzl, HZ, HO, HB⟩ := hrel
    by_cases hlt : k < X.length
    · obtain ⟨b1, o1, x, rfl, d1, _, HX, _, _⟩ := h1.out.get HB.out hlt
      have HT := hid (take_snoc HX.out)
      clear HX
      go_wp2_with fail
      go_loopw [6, 19] (fun v i ws => ∃ (j : Nat) (ys : List Int), j ≤ Y.length ∧ i = .int .i64 j ∧ ys.length = zs.length + j ∧ Hid (ys = zs ++ rowW x (Y.take j)) ∧ Hid (ws.ownsRow w.heap.size 3 1 v ys.length (ys.map (Value.int .i64))) ∧ Hid (Below w.heap.size w ws)) (fun _ i _ => Y.length - (intOf i).toNat)
      case atStart => exact ⟨0, zs, Nat.zero_le _, rfl, by simp, by show _ = _; simp [rowW], HO, HB⟩
      case round =>
        obtain ⟨j, ys, hj, rfl, hyl, HY, HO1, HB1⟩ := hrel
        by_cases hjt : j < Y.length
        · obtain ⟨b2, o2, y, rfl, d2, _, HXY, _, _⟩ := h2.out.get HB1.out hjt
          have HT2 := hid (take_snoc HXY.out)
          have hwz := HB1.out.size
          clear HXY
          go_wp2_with (at_builtin; refine wpList_append_own_at _ rfl (.tmp 23) (.tmp 27) 47 rfl w.heap.size 3 i0 (.int .i64 0) 1 8 Try.underlying47 hi0 hz0 hz1 hz2 rfl (by decide) _ _ _ rfl (HO1.out.alloc _) ⟨wr.heap.size, 0, none⟩ 1 1 [.int .i64 (wrap64 (x + y))] rfl rfl (one_new_at _ _ _ _ rfl) (one_i64 _) (by unfold maxLen; omega) (by omega) (by simp; omega) ?_; intro v1 w3 hown1 hgrow1 hnil1 hloc1)
          refine ⟨⟨j + 1, ys ++ [wrap64 (x + y)], hjt, by simp, by simp; omega, ?_, ?_, ?_⟩, by simp [intOf]; omega⟩
          · show _ = _
            rw [HT2.out, rowW_snoc, ← List.append_assoc, ← HY.out]
          · have : w3.ownsRow w.heap.size 3 1 v1 (ys ++ [wrap64 (x + y)]).length ((ys ++ [wrap64 (x + y)]).map (Value.int .i64)) := by rw [List.map_append, List.length_append]; exact hown1
            exact this
          · exact below_push (HB1.out.alloc hwz _) (HO1.out.alloc _) hgrow1 (by simp; omega)
        · have HN : Hid (ys = plusW (X.take (k + 1)) Y) := by
            show _ = _
            rw [HT.out, plusW_snoc, ← HZ.out, HY.out, List.take_of_length_le (by omega)]
          go_wp2_with fail
          go_roundw
          case rel => exact ⟨k + 1, ys, hlt, by go_num, by omega, HN, HO1, HB1⟩
          case measure => simp [intOf]; omega
    · have HN : Hid (zs = plusW X Y) := by
        show _ = _
        rw [HZ.out, List.take_of_length_le (by omega)]
      have hwz := HB.out.size
      go_wp2_with fail
      refine (unique_any w.heap.size _ zs wr (by omega) HO hwz).mono ?_
      rintro e w1 ⟨⟨a, c, rfl, R1, R2, R3⟩, B1⟩
      have B2 := hid (HB.out.trans B1.out)
      go_wp2_with fail
      go_ret2
      rw [← HN.out]
      exact ⟨⟨a, c, rfl, R1, R2, R3⟩, B2⟩
theorem IntRow.grown {k : IntKind} {w w' : World} {a : Option Addr} {zs : List Int} {row : Option Nat} (h : IntRow k w a zs) (hg : w.grownBy w' row) (hd : ∀ x, a = some x → row ≠ some x.block) : IntRow k w' a zs := by
  intro h0
  obtain ⟨b, off, e, hc⟩ := h h0
  refine ⟨b, off, e, fun i hi => ?_⟩
  exact hg.cell (hc i hi) (fun h => hd _ e h.symm)
/-- append(all, ls...), 'all' a row of the call's own, 'ls' whatever list of ints -/
theorem wpList_append_ints {w : World} {ops : Array Oper} {rest : List Oper} {o : Oper} {a : Act} {Q : Exit → Act → World → Prop} (hgd : o.guard = none) (s x : Operand)
    (ho : o.op = .call { callee := .builtin .append, args := #[s, x], argTypes := #[47, 47] })
    (base : Nat) (v : Value) (zs : List Int) (hs : a.eval s = v) (hown : w.ownsRow base 3 1 v zs.length (zs.map (Value.int .i64)))
    (ad : Option Addr) (c : Nat) (L : List Int) (hx : a.eval x = .slice ad L.length c) (hI : IntRow .i64 w ad L) (hN : ad = none → L = [] ∧ c = 0)
    (h63 : zs.length + L.length ≤ 1000000000) (hbase : base ≤ w.heap.size)
    (h : ∀ v' w', w'.ownsRow base 3 1 v' (zs ++ L).length ((zs ++ L).map (Value.int .i64)) → w.grownBy w' v.ownBlock → (v'.ownBlock = v.ownBlock ∨ v'.ownBlock = some w.heap.size) → wpList Try.prog ops Q rest (a.put o.dst v') w') :
    wpList Try.prog ops Q (o :: rest) a w := by
  obtain ⟨i0, hi0, hz0, hz1, hz2⟩ := info_parts Try.info3
  cases ad with
  | none =>
    obtain ⟨rfl, rfl⟩ := hN rfl
    refine wpList_append_own_none hgd s x 47 ho base 3 i0 1 Try.underlying47 hi0 v zs.length (zs.map (Value.int .i64)) hs hown hx ?_
    refine h v w ?_ ⟨rfl, rfl, rfl, Nat.le_refl _, fun _ _ _ => rfl⟩ (.inl rfl)
    rw [List.append_nil]; exact hown
  | some ad =>
    refine wpList_append_own_at _ hgd s x 47 ho base 3 i0 (.int .i64 0) 1 8 Try.underlying47 hi0 hz0 hz1 hz2 rfl (by decide) v zs.length _ hs hown ad L.length c (L.map (Value.int .i64)) hx (by simp) ?_ ?_ (by unfold maxLen; omega) (by omega) hbase ?_
    · intro j u hj
      rw [List.getElem?_map] at hj
      have hjl : j < L.length := by
        rcases Nat.lt_or_ge j L.length with h | h
        · exact h
        · rw [List.getElem?_eq_none h] at hj; simp at hj
      obtain ⟨b, off, e, hc⟩ := hI (by omega)
      cases e
      have := hc j hjl
      rw [List.getD_eq_getElem?_getD, List.getElem?_eq_getElem hjl] at this
      rw [List.getElem?_eq_getElem hjl] at hj
      simp only [Option.map_some, Option.some.injEq] at hj
      subst hj
      rw [show (⟨b, off, none⟩ : Addr).add j = ⟨b, off + j, none⟩ from by simp only [Addr.add]; split <;> simp_all]
      exact this
    · intro u hu
      simp only [List.mem_map] at hu
      obtain ⟨z, _, rfl⟩ := hu
      rfl
    · intro v' w' h1 h2 _ h3
      refine h v' w' ?_ h2 h3
      rw [List.length_append, List.map_append]; exact h1
end Go.Proofs.Qxb6605195a
