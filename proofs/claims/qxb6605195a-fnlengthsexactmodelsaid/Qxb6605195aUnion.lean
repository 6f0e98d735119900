import Derived.Test.Qxb6605195aNewSet
import Derived.Deep.RegionLaw
import Derived.Deep.RegionHeld3
import Derived.Laws.AppendOwnNone
namespace Go.Proofs.Qxb6605195a
open Go.ChangeShapes Go.WideShapes Go.ChangeAt Go.RowKit Plain
set_option linter.unusedVariables false
set_option maxRecDepth 100000

/-- append onto a row of the call's own, as one step of a region that draws -/
theorem step_append_own {P : Program} {ops : Array Oper} {o : Oper} {a : Act} {w : World} {K : Act → World → Prop} {Q : Exit → Act → World → Prop} {E : Prop}
    (hg : o.guard = none) (s x : Operand) (t : TypeId) (hop : o.op = Op.call { callee := Callee.builtin Builtin.append, args := #[s, x], argTypes := #[t, t] })
    (base : Nat) (e : TypeId) (i : TypeInfo) (z : Value) (size bytes : Nat) (h1 : P.underlying t = some (.slice e)) (h2 : P.info? e = some i) (h3 : i.zero = some z) (h4 : i.size = size) (h5 : i.bytes = bytes) (h6 : z.cells.size = size) (h7 : 0 < size)
    (v : Value) (n : Nat) (xs : List Value) (hs : a.eval s = v) (hown : w.ownsRow base e size v n xs)
    (ad : Addr) (m c : Nat) (news : List Value) (hx : a.eval x = .slice (some ad) m c) (hn : news.length = m * size) (hc : ∀ j u, news[j]? = some u → w.cell? (ad.add j) = some u) (h1c : ∀ u ∈ news, u.oneCell' = true)
    (b1 : n + m ≤ maxLen) (b2 : (n + m) * bytes ≤ 140737488355328) (b3 : base ≤ w.heap.size)
    (hK : ∀ v' w', w'.ownsRow base e size v' (n + m) (xs ++ news) → w.grownBy w' v.ownBlock → K (a.put o.dst v') w') :
    if Region.wanted o (yielded ops a.tmps) = true then Oper.wp P o a w K Q else E := by
  have hw : Region.wanted o (yielded ops a.tmps) = true := by simp [Region.wanted, hg]
  rw [if_pos hw]
  obtain ⟨v', w', hrun, r1, r2, _⟩ := run_append_own (P := P) w base t o.type e i z size bytes h1 h2 h3 h4 h5 h6 h7 v n xs hown ad m c news hn hc h1c b1 b2 b3
  unfold Oper.wp
  simp [execOp, hop, resolve, invoke, builtin, hs, hx, hrun, Result.andThen]
  exact hK v' w' r1 r2
theorem step_append_none {P : Program} {ops : Array Oper} {o : Oper} {a : Act} {w : World} {K : Act → World → Prop} {Q : Exit → Act → World → Prop} {E : Prop}
    (hg : o.guard = none) (s x : Operand) (t : TypeId) (hop : o.op = Op.call { callee := Callee.builtin Builtin.append, args := #[s, x], argTypes := #[t, t] })
    (base : Nat) (e : TypeId) (i : TypeInfo) (size : Nat) (h1 : P.underlying t = some (.slice e)) (h2 : P.info? e = some i)
    (v : Value) (n : Nat) (xs : List Value) (hs : a.eval s = v) (hown : w.ownsRow base e size v n xs) (hx : a.eval x = .slice none 0 0)
    (hK : K (a.put o.dst v) w) :
    if Region.wanted o (yielded ops a.tmps) = true then Oper.wp P o a w K Q else E := by
  have hw : Region.wanted o (yielded ops a.tmps) = true := by simp [Region.wanted, hg]
  rw [if_pos hw]
  have hrun := run_append_owned_none (P := P) (w := w) base t o.type e i size h1 h2 v n xs hown
  unfold Oper.wp
  simp [execOp, hop, resolve, invoke, builtin, hs, hx, hrun, Result.andThen]
  exact hK

theorem newSet_two (a : Option Addr) (cap : Nat) (xs ys : List (Int × Int)) (w : World) (hm : xs.length + ys.length ≤ 1048576) (hd : Hid (Dom (xs ++ ys))) (hr : Hid (PairRow .i32 w a (xs ++ ys))) (hn : Hid (a = none → xs ++ ys = [])) :
    Calls Try.prog 30 #[.slice a (xs.length + ys.length) cap] w fun e w' => RetSet (xs ++ ys) e w' ∧ Below w.heap.size w w' := by
  have := newSet_any a cap (xs ++ ys) w (by rw [List.length_append]; exact hm) hd hr hn
  rwa [List.length_append] at this
theorem pairRow_own2 {k : IntKind} {w : World} {base : Nat} {e : TypeId} {v : Value} {xs ys : List (Int × Int)} (h : w.ownsRow base e 2 v (xs.length + ys.length) (flat k xs ++ flat k ys)) :
    ∃ a cap, v = .slice a (xs.length + ys.length) cap ∧ Hid (PairRow k w a (xs ++ ys)) ∧ Hid (a = none → xs ++ ys = []) := by
  rw [← flat_append, ← List.length_append] at h
  obtain ⟨a, cap, e1, h1, _, h2⟩ := pairRow_own h
  exact ⟨a, cap, by rw [e1, List.length_append], h1, fun h => (h2 h).1⟩

/-- slices.Clone: the copy is a row of the call's own -/
theorem sclone_own (a : Option Addr) (cap : Nat) (xs : List (Int × Int)) (w : World) (hm : xs.length ≤ 1048576) (hr : Hid (PairRow .i32 w a xs)) (hn : Hid (a = none → xs = [])) :
    Calls Try.prog 42 #[.slice a xs.length cap] w fun e w' => (∃ v, e = .returned v ∧ Hid (w'.ownsRow w.heap.size 60 2 v xs.length (flat .i32 xs))) ∧ Hid (Below w.heap.size w w') := by
  cases a with
  | none =>
    have hx := hn.out rfl
    subst hx
    refine (sclone_nil _ cap w).mono ?_
    rintro e w' ⟨rfl, rfl⟩
    exact ⟨⟨_, rfl, World.ownsRow_nil _ _ _ _⟩, Below.refl _ _⟩
  | some x =>
    refine (sclone_some x cap xs w hm hr).mono ?_
    rintro e w' ⟨⟨g, c, rfl, ho⟩, hb⟩
    exact ⟨⟨_, rfl, ho⟩, hb⟩

set_option maxHeartbeats 800000 in
theorem union_some (b1 b2 : Nat) (M1 M2 : List (Int × Int)) (a1 : Option Addr) (x2 : Addr) (c1 c2 : Nat) (w : World) (hl : M1.length + M2.length ≤ 1048576) (hb1 : b1 < w.heap.size) (hb2 : b2 < w.heap.size)
    (k1 : w.cell? ⟨b1, 0, none⟩ = some (.slice a1 M1.length c1)) (k2 : w.cell? ⟨b2, 0, none⟩ = some (.slice (some x2) M2.length c2)) (HP1 : Hid (PairRow .i32 w a1 M1)) (HP2 : Hid (PairRow .i32 w (some x2) M2)) (HN1 : Hid (a1 = none → M1 = [])) (HD : Hid (Dom (M1 ++ M2))) :
    Calls Try.prog 34 #[.pointer (some ⟨b1, 0, none⟩), .pointer (some ⟨b2, 0, none⟩)] w fun e w' => RetSet (M1 ++ M2) e w' ∧ Below w.heap.size w w' := by
  obtain ⟨i0, hi0, hz0, hz1, hz2⟩ := info_parts Try.info60
  go_enter Try.func34, Try.ntmps34
  go_wp2_with fail
  go_region_held3 (fun w' => w'.cell? ⟨b1, 0, none⟩ = some (.slice a1 M1.length c1) ∧ w'.cell? ⟨b2, 0, none⟩ = some (.slice (some x2) M2.length c2)) (first | exact ⟨by assumption, by assumption⟩ | go_keep)
    (first
    | (refine step_append_own rfl (.tmp 9) (.tmp 13) 27 rfl w.heap.size 60 i0 (.agg #[.int .i32 0, .int .i32 0]) 2 8 Try.underlying27 hi0 hz0 hz1 hz2 rfl (by decide) _ _ _ rfl HO1.out x2 M2.length c2 (flat .i32 M2) rfl (flat_len _ _) (pairRow_news (HP2.out.below (show Below w.heap.size w w1 from (Below.drew (Below.refl _ _)).trans B1.out))) (flat_one _ _) (by unfold maxLen; omega) (by omega) B1.out.size ?_; intro v4 w2 hown hgrow; (have B2 := hid (below_push ((Below.drew (Below.refl w.heap.size w)).trans B1.out) HO1.out hgrow B1.out.size)); (obtain ⟨a4, c4, ev, HP4, HN4⟩ := pairRow_own2 hown); clear hown hgrow; subst ev; (have cc1 : w2.cell? ⟨b1, 0, none⟩ = some (.slice a1 M1.length c1) := (B2.out.cell (p := ⟨b1, 0, none⟩) hb1).trans k1); (have cc2 : w2.cell? ⟨b2, 0, none⟩ = some (.slice (some x2) M2.length c2) := (B2.out.cell (p := ⟨b2, 0, none⟩) hb2).trans k2))
    | (go_at_call 42; refine (sclone_own a1 c1 M1 _ (by omega) ?_ ?_).mono ?_; (exact HP1); (exact HN1); rintro e w1 ⟨⟨v3, rfl, HO1⟩, B1⟩; (have cb1 : w1.cell? ⟨b1, 0, none⟩ = some (.slice a1 M1.length c1) := (B1.out.cell (p := ⟨b1, 0, none⟩) hb1).trans k1); (have cb2 : w1.cell? ⟨b2, 0, none⟩ = some (.slice (some x2) M2.length c2) := (B1.out.cell (p := ⟨b2, 0, none⟩) hb2).trans k2))
    | (go_at_call 30; refine (newSet_two a4 c4 M1 M2 w2 (by omega) HD HP4 HN4).mono ?_; rintro e w3 ⟨⟨bb, MM, gg, rfl, R1⟩, B3⟩; (have HR1 := hid R1); (have B3' := hid B3); (have cd1 : w3.cell? ⟨b1, 0, none⟩ = some (.slice a1 M1.length c1) := (B3.cell (p := ⟨b1, 0, none⟩) (Nat.lt_of_lt_of_le hb1 B2.out.size)).trans cc1); (have cd2 : w3.cell? ⟨b2, 0, none⟩ = some (.slice (some x2) M2.length c2) := (B3.cell (p := ⟨b2, 0, none⟩) (Nat.lt_of_lt_of_le hb2 B2.out.size)).trans cc2); clear R1 B3))
  go_wp2_with fail
  go_ret
  exact ⟨⟨bb, MM, gg, rfl, HR1.out⟩, B2.out.trans (B3'.out.mono B2.out.size)⟩

set_option maxHeartbeats 800000 in
theorem union_none (b1 b2 : Nat) (M1 : List (Int × Int)) (a1 : Option Addr) (c1 : Nat) (w : World) (hl : M1.length ≤ 1048576) (hb1 : b1 < w.heap.size) (hb2 : b2 < w.heap.size)
    (k1 : w.cell? ⟨b1, 0, none⟩ = some (.slice a1 M1.length c1)) (k2 : w.cell? ⟨b2, 0, none⟩ = some (.slice none 0 0)) (HP1 : Hid (PairRow .i32 w a1 M1)) (HN1 : Hid (a1 = none → M1 = [])) (HD : Hid (Dom M1)) :
    Calls Try.prog 34 #[.pointer (some ⟨b1, 0, none⟩), .pointer (some ⟨b2, 0, none⟩)] w fun e w' => RetSet M1 e w' ∧ Below w.heap.size w w' := by
  obtain ⟨i0, hi0, hz0, hz1, hz2⟩ := info_parts Try.info60
  go_enter Try.func34, Try.ntmps34
  go_wp2_with fail
  go_region_held3 (fun w' => w'.cell? ⟨b1, 0, none⟩ = some (.slice a1 M1.length c1) ∧ w'.cell? ⟨b2, 0, none⟩ = some (.slice none 0 0)) (first | exact ⟨by assumption, by assumption⟩ | go_keep)
    (first
    | (refine step_append_none rfl (.tmp 9) (.tmp 13) 27 rfl w.heap.size 60 i0 2 Try.underlying27 hi0 _ _ _ rfl HO1.out rfl ?_; (obtain ⟨a4, c4, ev, HP4, _, hn4⟩ := pairRow_own HO1.out); (have HP4' := hid HP4); (have hn4' := hid (show a4 = none → M1 = [] from fun h => (hn4 h).1)); clear HP4 hn4; subst ev)
    | (go_at_call 42; refine (sclone_own a1 c1 M1 _ (by omega) ?_ ?_).mono ?_; (exact HP1); (exact HN1); rintro e w1 ⟨⟨v3, rfl, HO1⟩, B1⟩; (have cb1 : w1.cell? ⟨b1, 0, none⟩ = some (.slice a1 M1.length c1) := (B1.out.cell (p := ⟨b1, 0, none⟩) hb1).trans k1); (have cb2 : w1.cell? ⟨b2, 0, none⟩ = some (.slice none 0 0) := (B1.out.cell (p := ⟨b2, 0, none⟩) hb2).trans k2))
    | (go_at_call 30; refine (newSet_any a4 c4 M1 w1 (by omega) HD HP4' hn4').mono ?_; rintro e w3 ⟨⟨bb, MM, gg, rfl, R1⟩, B3⟩; (have HR1 := hid R1); (have B3' := hid B3); (have cd1 : w3.cell? ⟨b1, 0, none⟩ = some (.slice a1 M1.length c1) := (B3.cell (p := ⟨b1, 0, none⟩) (Nat.lt_of_lt_of_le hb1 B1.out.size)).trans cb1); (have cd2 : w3.cell? ⟨b2, 0, none⟩ = some (.slice none 0 0) := (B3.cell (p := ⟨b2, 0, none⟩) (Nat.lt_of_lt_of_le hb2 B1.out.size)).trans cb2); clear R1 B3))
  go_wp2_with fail
  go_ret
  exact ⟨⟨bb, MM, gg, rfl, HR1.out⟩, (Below.drew (Below.refl w.heap.size w)).trans (B1.out.trans (B3'.out.mono B1.out.size))⟩

theorem union_any (b1 b2 : Nat) (M1 M2 : List (Int × Int)) (g1 g2 : Nat → Nat) (w : World) (hl : M1.length + M2.length ≤ 1048576) (s1 : SetAt w b1 M1 g1) (s2 : SetAt w b2 M2 g2) (hd : Dom (M1 ++ M2)) :
    Calls Try.prog 34 #[.pointer (some ⟨b1, 0, none⟩), .pointer (some ⟨b2, 0, none⟩)] w fun e w' => RetSet (M1 ++ M2) e w' ∧ Below w.heap.size w w' := by
  obtain ⟨hb1, ⟨a1, c1, k1, p1, n1⟩, _, _⟩ := s1
  obtain ⟨hb2, ⟨a2, c2, k2, p2, n2⟩, _, _⟩ := s2
  cases a2 with
  | some x2 => exact union_some b1 b2 M1 M2 a1 x2 c1 c2 w hl hb1 hb2 k1 k2 p1 p2 (fun h => (n1 h).1) hd
  | none =>
    obtain ⟨rfl, rfl⟩ := n2 rfl
    rw [List.append_nil] at hd ⊢
    exact union_none b1 b2 M1 a1 c1 w (by simpa using hl) hb1 hb2 k1 k2 p1 (fun h => (n1 h).1) hd
end Go.Proofs.Qxb6605195a
