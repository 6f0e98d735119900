import Derived.Test.Qxb6605294aCutL
set_option maxRecDepth 100000
namespace Go.Proofs.Qxb6605294a
open Go.ChangeShapes Go.WideShapes Go.ChangeAt Go.RowKit
set_option linter.unusedVariables false

/-! ### links: two ints each -/
def flat2 (xs : List (Int × Int)) : List Value := xs.flatMap fun r => [.int .i64 r.1, .int .i64 r.2]
theorem flat2_nil : flat2 [] = [] := rfl
theorem flat2_cons (r : Int × Int) (xs : List (Int × Int)) : flat2 (r :: xs) = .int .i64 r.1 :: .int .i64 r.2 :: flat2 xs := rfl
theorem flat2_append (xs ys : List (Int × Int)) : flat2 (xs ++ ys) = flat2 xs ++ flat2 ys := by simp [flat2]
theorem flat2_len (xs : List (Int × Int)) : (flat2 xs).length = xs.length * 2 := by
  induction xs with
  | nil => rfl
  | cons r xs ih => rw [flat2_cons, List.length_cons, List.length_cons, List.length_cons, ih]; omega
theorem flat2_get (xs : List (Int × Int)) : ∀ i, i < xs.length → (flat2 xs)[i * 2]? = some (.int .i64 (xs.getD i (0, 0)).1) ∧ (flat2 xs)[i * 2 + 1]? = some (.int .i64 (xs.getD i (0, 0)).2) := by
  induction xs with
  | nil => intro i hi; simp at hi
  | cons r xs ih =>
    intro i hi
    rw [flat2_cons]
    cases i with
    | zero => exact ⟨rfl, rfl⟩
    | succ i =>
      have := ih i (by simp at hi; omega)
      have e1 : (i + 1) * 2 = i * 2 + 1 + 1 := by omega
      rw [e1]
      simp only [List.getElem?_cons_succ, List.getD_cons_succ]
      exact this
theorem flat2_one (xs : List (Int × Int)) : ∀ u ∈ flat2 xs, u.oneCell' = true := by
  intro u hu
  simp only [flat2, List.mem_flatMap] at hu
  obtain ⟨r, _, hu⟩ := hu
  simp at hu
  rcases hu with rfl | rfl <;> rfl

/-- what is owned, read as a row of pairs -/
theorem pairRow_own {w : World} {base : Nat} {e : TypeId} {v : Value} {xs : List (Int × Int)} (h : w.ownsRow base e 2 v xs.length (flat2 xs)) :
    ∃ a cap, v = .slice a xs.length cap ∧ PairRow w a xs ∧ xs.length ≤ cap ∧ (a = none → xs = [] ∧ cap = 0) := by
  obtain ⟨hl, ⟨rfl, h0⟩ | ⟨g, cap, cur, rfl, hb, hh, h1, h2, h3, h4⟩⟩ := h
  · exact ⟨none, 0, by rw [h0], fun h => by omega, by omega, fun _ => ⟨List.length_eq_zero_iff.mp h0, rfl⟩⟩
  · refine ⟨_, cap, rfl, fun _ => ⟨g, 0, rfl, fun i hi => ?_⟩, h1, by simp⟩
    have hc := flat2_get xs i hi
    have hin : ∀ j, j < xs.length * 2 → w.cell? ⟨g, j, none⟩ = (flat2 xs)[j]? := by
      intro j hj
      simp only [World.cell?, hh]
      have : cur.toList[j]? = (flat2 xs)[j]? := by
        rw [← h4, List.getElem?_take]; simp [hj]
      simpa using this
    rw [Nat.zero_add]
    exact ⟨by rw [hin _ (by omega)]; exact hc.1, by rw [hin _ (by omega)]; exact hc.2⟩

theorem pair_news {w : World} {x : Addr} {xs : List (Int × Int)} (h : PairRow w (some x) xs) : ∀ j u, (flat2 xs)[j]? = some u → w.cell? (x.add j) = some u := by
  intro j u hj
  have hjl : j < (flat2 xs).length := by
    rcases Nat.lt_or_ge j (flat2 xs).length with h | h
    · exact h
    · rw [List.getElem?_eq_none h] at hj; simp at hj
  rw [flat2_len] at hjl
  obtain ⟨b, off, e, hc⟩ := h (by omega)
  cases e
  have hi : j / 2 < xs.length := by omega
  have h1 := hc (j / 2) hi
  have h2 := flat2_get xs (j / 2) hi
  rw [add_at]
  rcases Nat.mod_two_eq_zero_or_one j with hm | hm
  · have e : j = j / 2 * 2 := by omega
    rw [← e] at h1 h2
    rw [h2.1] at hj
    cases hj
    exact h1.1
  · have e : j / 2 * 2 + 1 = j := by omega
    have e2 : off + j / 2 * 2 + 1 = off + j := by omega
    rw [e2] at h1
    rw [e] at h2
    rw [h2.2] at hj
    cases hj
    exact h1.2
abbrev Own2 (w : World) (B : Nat) (zs : List (Int × Int)) (v : Value) : Prop := w.ownsRow B 102 2 v zs.length (flat2 zs)
/-- append(links, ls...) -/
theorem wpList_append_links {w : World} {ops : Array Oper} {rest : List Oper} {o : Oper} {a : Act} {Q : Exit → Act → World → Prop} (hgd : o.guard = none) (s x : Operand)
    (ho : o.op = .call { callee := .builtin .append, args := #[s, x], argTypes := #[99, 99] })
    (base : Nat) (v : Value) (zs : List (Int × Int)) (hs : a.eval s = v) (hown : Own2 w base zs v)
    (ad : Option Addr) (c : Nat) (L : List (Int × Int)) (hx : a.eval x = .slice ad L.length c) (hI : PairRow w ad L) (hN : ad = none → L = [] ∧ c = 0)
    (h63 : zs.length + L.length ≤ 1000000000) (hbase : base ≤ w.heap.size)
    (h : ∀ v' w', Own2 w' base (zs ++ L) v' → w.grownBy w' v.ownBlock → (v' = .slice none 0 0 ↔ v = .slice none 0 0 ∧ L.length = 0) → wpList Try.prog ops Q rest (a.put o.dst v') w') :
    wpList Try.prog ops Q (o :: rest) a w := by
  obtain ⟨i0, hi0, hz0, hz1, hz2⟩ := info_parts Try.info102
  cases ad with
  | none =>
    obtain ⟨rfl, rfl⟩ := hN rfl
    refine wpList_append_own_none hgd s x 99 ho base 102 i0 2 Try.underlying99 hi0 v zs.length (flat2 zs) hs hown hx ?_
    refine h v w ?_ ⟨rfl, rfl, rfl, Nat.le_refl _, fun _ _ _ => rfl⟩ (by simp)
    rw [List.append_nil]; exact hown
  | some ad =>
    refine wpList_append_own_at _ hgd s x 99 ho base 102 i0 _ 2 16 Try.underlying99 hi0 hz0 hz1 hz2 rfl (by decide) v zs.length _ hs hown ad L.length c (flat2 L) hx (flat2_len L) (pair_news hI) (flat2_one L) (by unfold maxLen; omega) (by omega) hbase ?_
    intro v' w' h1 h2 h3 _
    refine h v' w' ?_ h2 h3
    show w'.ownsRow base 102 2 v' (zs ++ L).length (flat2 (zs ++ L))
    rw [List.length_append, flat2_append]; exact h1
theorem hrow_cut {w : World} {B R : Nat} {xss : List (List (Int × Int))} {f : Nat → Value} {v : Value} {e : TypeId} (hR : w.rowIs R e xss.length f) (hv : Own2 w B xss.flatten v) (hc : CutAt 2 v xss xss.length f) : HRow w (some ⟨R, 0, none⟩) xss := by
  refine fun _ => ⟨R, 0, f, rfl, hR.lt, fun i hi => ?_⟩
  rw [Nat.zero_add]
  refine ⟨hR.cell hi, ?_⟩
  obtain ⟨a, ha, ⟨_, rfl, hx⟩ | ⟨ab, p, hab, rfl, hp⟩⟩ := hc i hi
  · rw [ha, hx]
    exact ⟨_, _, rfl, Nat.le_refl _, pairRow_nil _ _, fun _ => ⟨rfl, rfl⟩, fun x h => (by cases h)⟩
  · refine ⟨_, _, ha, Nat.le_refl _, ?_, fun h => (by cases h), fun x h => (by cases h; exact ⟨Nat.zero_le _, (hv.lt ab hab).2⟩)⟩
    intro h0
    obtain ⟨a1, c1, e1, RF, l1, _⟩ := pairRow_own hv
    have hp' : p = (xss.take i).flatten.length * 2 := by
      rcases hp with h | h
      · exact h
      · rw [h] at h0; simp at h0
    refine ⟨ab, p, rfl, fun j hj => ?_⟩
    have hlen := flat_lt hi hj
    obtain ⟨b, off, e2, hcc⟩ := RF (by omega)
    subst e2
    rw [e1] at hab
    simp only [Value.ownBlock, Option.some.injEq] at hab
    subst hab
    have h2 := hcc _ hlen
    rw [flat_at (0, 0) xss i j hi hj] at h2
    have hoff : off = 0 := by
      obtain ⟨_, ⟨hv', _⟩ | ⟨g', cap, cur, hv', _⟩⟩ := hv
      · rw [e1] at hv'; cases hv'
      · rw [e1] at hv'; cases hv'; rfl
    rw [hoff, Nat.zero_add, Nat.add_mul, ← hp'] at h2
    exact h2
/-! ### the keys of the facts, read back -/
theorem kv_inv {key : Value} {l : Lit} (h : keyOf Try.prog 73 key = some l) : ∃ k : Int × Int, key = kv k ∧ wfK k := by
  unfold keyOf at h
  rw [Try.underlying73] at h
  dsimp only at h
  split at h
  · rename_i hc
    rw [Bool.and_eq_true] at hc
    have hf := hc.2
    cases key <;> simp [Value.formed, Try.underlying73] at hf
    rename_i cs
    have hs : Try.prog.cellsOf 73 = 2 := arr73.size
    rw [hs] at hf
    obtain ⟨c0, c1, rfl⟩ : ∃ c0 c1, cs = #[c0, c1] := by
      obtain ⟨l⟩ := cs
      match l, hf with
      | [c0, c1], _ => exact ⟨c0, c1, rfl⟩
    obtain ⟨m, hm⟩ : ∃ m, Try.prog.types.size + 1 = m + 1 + 1 := ⟨_, rfl⟩
    rw [hm] at h
    have e : Program.keyLits Try.prog (m + 1 + 1) 73 (Value.agg #[c0, c1]).cells.toList = ((Program.keyLits Try.prog (m + 1) 3 [c0]).bind fun x => (Program.keyLits Try.prog (m + 1) 3 [c1]).map fun y => x ++ y) := by
      conv => lhs; unfold Program.keyLits
      rw [Try.underlying73]
      show (if 2 = Try.prog.cellsOf 73 then _ else none) = _
      rw [if_pos hs.symm, show List.range 2 = [0, 1] from rfl, List.mapM_cons, List.mapM_cons, List.mapM_nil]
      simp only [show Try.prog.cellsOf 3 = 1 from arr73.one]
      show Option.map List.flatten (Option.bind (Program.keyLits Try.prog (m + 1) 3 [c0]) fun x => Option.bind (Option.bind (Program.keyLits Try.prog (m + 1) 3 [c1]) fun y => some [y]) fun z => some (x :: z)) = _
      cases Program.keyLits Try.prog (m + 1) 3 [c0] <;> cases Program.keyLits Try.prog (m + 1) 3 [c1] <;> simp
    rw [e] at h
    have inv : ∀ {c : Value} {x : List Lit}, Program.keyLits Try.prog (m + 1) 3 [c] = some x → ∃ z : Int, c = .int .i64 z ∧ (Lit.int .i64 z).wf = true := by
      intro c x hx
      unfold Program.keyLits at hx
      rw [Try.underlying3] at hx
      cases c <;> simp at hx
      exact ⟨_, by rw [hx.1.1], hx.1.2⟩
    cases h0 : Program.keyLits Try.prog (m + 1) 3 [c0] with
    | none => rw [h0] at h; simp at h
    | some x =>
      cases h1 : Program.keyLits Try.prog (m + 1) 3 [c1] with
      | none => rw [h0, h1] at h; simp at h
      | some y =>
        obtain ⟨z0, rfl, w0⟩ := inv h0
        obtain ⟨z1, rfl, w1⟩ := inv h1
        exact ⟨(z0, z1), rfl, w0, w1⟩
  · cases h
end Go.Proofs.Qxb6605294a
