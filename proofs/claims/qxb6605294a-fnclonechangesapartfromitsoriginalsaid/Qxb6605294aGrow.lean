import Derived.Test.Qxb6605294aMat
set_option maxRecDepth 100000
namespace Go.Proofs.Qxb6605294a
open Go.ChangeShapes Go.WideShapes Go.ChangeAt Go.RowKit
set_option linter.unusedVariables false

/-- a list without spare room -/
def Tight (w : World) (xs : List Int) (v : Value) : Prop := ∃ a, v = .slice a xs.length xs.length ∧ (a = none → xs = []) ∧ ∀ b, a = some b → ∀ j, j < xs.length → w.cell? (b.add j) = some (.int .i64 (xs.getD j 0))
theorem wpList_grow_one {w : World} {ops : Array Oper} {rest : List Oper} {o : Oper} {a : Act} {Q : Exit → Act → World → Prop} (hgd : o.guard = none) (s x : Operand)
    (ho : o.op = .call { callee := .builtin .append, args := #[s, x], argTypes := #[22, 22] })
    (B : Nat) (own : Prop) (v : Value) (xs : List Int) (z : Int) (hs : a.eval s = v) (hv : (¬ own ∧ Tight w xs v) ∨ (own ∧ Own3 w B xs v))
    (ad : Addr) (hx : a.eval x = .slice (some ad) 1 1) (hc : ∀ j u, [Value.int .i64 z][j]? = some u → w.cell? (ad.add j) = some u) (hl : xs.length ≤ 1048576) (hB : B ≤ w.heap.size)
    (h : ∀ aa cc w', Own3 w' B (xs ++ [z]) (.slice aa (xs.length + 1) cc) → (∀ b, (Value.slice aa (xs.length + 1) cc).ownBlock = some b → w.heap.size ≤ b ∨ (own ∧ v.ownBlock = some b)) → Tch (fun b => own ∧ v.ownBlock = some b) w w' → Below B w w' → wpList Try.prog ops Q rest (a.put o.dst (.slice aa (xs.length + 1) cc)) w') :
    wpList Try.prog ops Q (o :: rest) a w := by
  obtain ⟨i0, hi0, hz0, hz1, hz2⟩ := info_parts Try.info3
  have h1c : ∀ u ∈ [Value.int .i64 z], u.oneCell' = true := by intro u hu; simp at hu; subst hu; rfl
  have hmap : xs.map (Value.int .i64) ++ [Value.int .i64 z] = (xs ++ [z]).map (Value.int .i64) := by simp
  have hlen : (xs ++ [z]).length = xs.length + 1 := by simp
  rcases hv with ⟨hno, ad0, rfl, hnone, hcells⟩ | ⟨hown, hO⟩
  · refine wpList_append_grows w hgd s x 22 ho 3 i0 (.int .i64 0) 1 8 Try.underlying22 hi0 hz0 hz1 hz2 rfl (by decide) ad0 xs.length xs.length (xs.map (Value.int .i64)) hs (fun h => by rw [hnone h]; exact ⟨rfl, rfl⟩) (by simp) (fun b hb j u hj => ?_) ad 1 1 [.int .i64 z] hx rfl hc h1c (by omega) (by unfold maxLen; omega) (by omega) ?_
    · rw [List.getElem?_map] at hj
      by_cases hjl : j < xs.length
      · rw [List.getElem?_eq_getElem hjl] at hj
        have := hcells b hb j hjl
        rw [List.getD_eq_getElem?_getD, List.getElem?_eq_getElem hjl] at this
        simp at hj this
        rw [← hj]; exact this
      · rw [List.getElem?_eq_none (by omega)] at hj; simp at hj
    · intro v' w' hown' hg
      rw [hmap] at hown'
      obtain ⟨aa, cc, rfl⟩ := own_slice hown'
      refine h aa cc w' (by unfold Own3; rw [hlen]; exact own_mono hown' hB) (fun b hb => .inl (own_ge hown' hb)) ((Tch.refl _ _).grown hg (fun k hk => by cases hk)) ((Below.refl _ _).grown hg hB (fun k hk => by cases hk))
  · refine wpList_append_own_at w hgd s x 22 ho B 3 i0 (.int .i64 0) 1 8 Try.underlying22 hi0 hz0 hz1 hz2 rfl (by decide) v xs.length (xs.map (Value.int .i64)) hs hO ad 1 1 [.int .i64 z] hx rfl hc h1c (by unfold maxLen; omega) (by omega) hB ?_
    intro v' w' hown' hg _ hat
    rw [hmap] at hown'
    obtain ⟨aa, cc, rfl⟩ := own_slice hown'
    refine h aa cc w' (by unfold Own3; rw [hlen]; exact hown') (fun b hb => ?_) ((Tch.refl _ _).grown hg (fun k hk => .inl ⟨hown, hk⟩)) ((Below.refl _ _).grown hg hB (fun k hk => own_ge hO hk))
    rcases hat with h1 | h1
    · exact .inr ⟨hown, by rw [← h1]; exact hb⟩
    · rw [h1] at hb; cases hb; exact .inl (Nat.le_refl _)

structure GrowIn (w : World) (B R m : Nat) (f : Nat → Value) (O : Nat → Prop) (xs : Nat → List Int) : Prop where
  row : w.rowIs R 22 m f
  one : ∀ i, i < m → (¬ O i ∧ Tight w (xs i) (f i)) ∨ (O i ∧ Own3 w B (xs i) (f i))
  neR : ∀ i b, i < m → (f i).ownBlock = some b → b ≠ R
  apart : ∀ i j b, i < m → j < m → i ≠ j → O i → (f i).ownBlock = some b → (f j).ownBlock ≠ some b
structure GrowSt (w wr : World) (B R m : Nat) (f f' : Nat → Value) (O : Nat → Prop) (xs : Nat → List Int) (k : Nat) : Prop where
  row : wr.rowIs R 22 m f'
  todo : ∀ i, k ≤ i → i < m → f' i = f i
  done : ∀ i, i < k → Own3 wr B (xs i ++ [(i : Int)]) (f' i)
  place : ∀ i b, i < k → (f' i).ownBlock = some b → b ≠ R ∧ (w.heap.size ≤ b ∨ (O i ∧ (f i).ownBlock = some b))
  tch : Tch (fun b => b = R ∨ ∃ i, i < k ∧ O i ∧ (f i).ownBlock = some b) w wr
theorem own_tch {X : Nat → Prop} {w w' : World} {B : Nat} {e : TypeId} {size n : Nat} {v : Value} {l : List Value} (h : w.ownsRow B e size v n l) (ht : Tch X w w') (hX : ∀ b, v.ownBlock = some b → ¬ X b) : w'.ownsRow B e size v n l := by
  obtain ⟨hl, ⟨hv, h0⟩ | ⟨g, cap, cur, hv, hB, hh, h1⟩⟩ := h
  · exact ⟨hl, .inl ⟨hv, h0⟩⟩
  · refine ⟨hl, .inr ⟨g, cap, cur, hv, hB, (ht.2 g (Array.getElem?_eq_some_iff.1 hh).1 (hX g (by rw [hv]; rfl))).trans hh, h1⟩⟩
theorem Tight.tch {X : Nat → Prop} {w w' : World} {xs : List Int} {v : Value} (h : Tight w xs v) (ht : Tch X w w') (hX : ∀ b, v.ownBlock = some b → ¬ X b) : Tight w' xs v := by
  obtain ⟨a, rfl, hn, hc⟩ := h
  refine ⟨a, rfl, hn, fun b hb j hj => ht.cell (hc b hb j hj) ?_⟩
  have : (b.add j).block = b.block := by unfold Addr.add; split <;> rfl
  rw [this]
  exact hX b.block (by rw [hb]; rfl)
section
variable {w wr : World} {B R m : Nat} {f f' : Nat → Value} {O : Nat → Prop} {xs : Nat → List Int} {k : Nat}
theorem GrowSt.next (G : GrowIn w B R m f O xs) (S : GrowSt w wr B R m f f' O xs k) (hk : k < m) : (¬ O k ∧ Tight wr (xs k) (f' k)) ∨ (O k ∧ Own3 wr B (xs k) (f' k)) := by
  rw [S.todo k (Nat.le_refl _) hk]
  have hX : ∀ b, (f k).ownBlock = some b → ¬ (b = R ∨ ∃ i, i < k ∧ O i ∧ (f i).ownBlock = some b) := by
    rintro b hb (e | ⟨i, hi, hO, hb'⟩)
    · exact G.neR k b hk hb e
    · exact G.apart i k b (by omega) hk (by omega) hO hb' hb
  rcases G.one k hk with ⟨h1, h2⟩ | ⟨h1, h2⟩
  · exact .inl ⟨h1, h2.tch S.tch hX⟩
  · exact .inr ⟨h1, own_tch h2 S.tch hX⟩
theorem GrowSt.step {w1 : World} {v' : Value} (G : GrowIn w B R m f O xs) (S : GrowSt w wr B R m f f' O xs k) (hk : k < m) (ho : Own3 w1 B (xs k ++ [(k : Int)]) v')
    (hp : ∀ b, v'.ownBlock = some b → wr.heap.size ≤ b ∨ (O k ∧ (f' k).ownBlock = some b)) (ht : Tch (fun b => O k ∧ (f' k).ownBlock = some b) wr w1) (hold : ∀ b, O k → (f k).ownBlock = some b → b < w.heap.size) :
    GrowSt w (w1.setCell ⟨R, k, none⟩ v') B R m f (fun j => if j = k then v' else f' j) O xs (k + 1) := by
  rw [S.todo k (Nat.le_refl _) hk] at hp ht
  have hR : wr.heap.size ≥ w.heap.size := S.tch.1
  have hRl : R < wr.heap.size := S.row.lt
  have rowX : w1.rowIs R 22 m f' := ht.row S.row (fun h => G.neR k R hk h.2 rfl)
  have bR : ∀ b, v'.ownBlock = some b → b ≠ R := fun b hb => by
    rcases hp b hb with h | ⟨_, h⟩
    · omega
    · exact G.neR k b hk h
  have TS : ∀ {b}, b ≠ R → (w1.setCell ⟨R, k, none⟩ v').heap[b]? = w1.heap[b]? := fun {b} hb => Go.Deep.blk_setCell_other _ _ _ _ (by show b ≠ R; exact hb)
  have T2 : Tch (fun b => b = R) w1 (w1.setCell ⟨R, k, none⟩ v') := (Tch.refl _ _).set rfl
  refine ⟨rowX.set k v', fun i h1 h2 => ?_, fun i hi => ?_, fun i b hi hb => ?_, ⟨?_, fun b hb hX => ?_⟩⟩
  · rw [if_neg (by omega)]; exact S.todo i (by omega) h2
  · by_cases e : i = k
    · subst e
      simp only [if_true]
      exact own_tch ho T2 (fun b hb => bR b hb)
    · simp only [if_neg e]
      have hd := S.done i (by omega)
      refine own_tch (own_tch hd ht (fun b hb hx => ?_)) T2 (fun b hb => (S.place i b (by omega) hb).1)
      rcases (S.place i b (by omega) hb).2 with h | ⟨h1, h2⟩
      · have := hold b hx.1 hx.2; omega
      · exact G.apart i k b (by omega) hk e h1 h2 hx.2
  · by_cases e : i = k
    · subst e
      simp only [if_true] at hb
      refine ⟨bR b hb, ?_⟩
      rcases hp b hb with h | h
      · exact .inl (by omega)
      · exact .inr h
    · simp only [if_neg e] at hb
      exact S.place i b (by omega) hb
  · have := ht.1
    simp
    omega
  · have hbR : b ≠ R := fun h => hX (.inl h)
    rw [TS hbR, ht.2 b (by omega) (fun h => hX (.inr ⟨k, by omega, h⟩)), S.tch.2 b hb (fun h => hX (by
      rcases h with h | ⟨i, hi, h⟩
      · exact .inl h
      · exact .inr ⟨i, by omega, h⟩))]
end
set_option maxHeartbeats 2000000 in
theorem grow_any (B0 B R m : Nat) (f : Nat → Value) (O : Nat → Prop) (xs : Nat → List Int) (cap : Nat) (w : World) (hm : m ≤ 1048576) (hL : Hid (∀ i, (xs i).length ≤ 1048576)) (hB : B ≤ w.heap.size) (hBB : B0 ≤ B) (hBR : B0 ≤ R) (HG : Hid (GrowIn w B R m f O xs)) :
    Calls Try.prog 49 #[.slice (some ⟨R, 0, none⟩) m cap] w fun e w' => e = .returned (.tuple #[]) ∧ (∃ f', Hid (w'.rowIs R 22 m f') ∧ Hid (∀ i, i < m → Own3 w' B (xs i ++ [(i : Int)]) (f' i))) ∧ Hid (Tch (fun b => b = R ∨ ∃ i, i < m ∧ O i ∧ (f i).ownBlock = some b) w w') ∧ Hid (Below B0 w w') := by
  have hold : Hid (∀ i, i < m → ∀ b, O i → (f i).ownBlock = some b → b < w.heap.size) := fun i hi b hO hb => by
    rcases HG.out.one i hi with ⟨h1, _⟩ | ⟨_, h2⟩
    · exact absurd hO h1
    · exact own_lt h2 hb
  go_enter Try.func49, Try.ntmps49
  go_wp2_with fail
  go_loopw [2] (fun i wr => ∃ (k : Nat) (f' : Nat → Value), k ≤ m ∧ i = .int .i64 k ∧ Hid (GrowSt w wr B R m f f' O xs k) ∧ Hid (Below B0 w wr)) (fun i _ => m - (intOf i).toNat)
  case atStart => exact ⟨0, f, Nat.zero_le _, rfl, hid ⟨HG.out.row, fun _ _ _ => rfl, fun i hi => by omega, fun i b hi => by omega, Tch.refl _ _⟩, Below.refl _ _⟩
  case round =>
    obtain ⟨k, f', hk, rfl, HS, HB⟩ := hrel
    by_cases hlt : k < m
    · have HN := hid (HS.out.next HG.out hlt)
      obtain ⟨av, cv, ev⟩ : ∃ a c, f' k = .slice a (xs k).length c := by
        rcases HN.out with ⟨_, a, h, _⟩ | ⟨_, h⟩
        · exact ⟨a, _, h⟩
        · exact own_slice h
      have hLk := hL.out k
      have c1 := HS.out.row.cell (i := k) hlt
      rw [ev] at c1
      have hsz := HB.out.size
      have BA := hid ((Below.refl wr.heap.size wr).alloc (Nat.le_refl _) (Obj.cells #[.int .i64 (k : Int)] 3))
      have BwA := hid (HB.out.alloc (Nat.le_trans hBB (Nat.le_trans hB hsz)) (Obj.cells #[.int .i64 (k : Int)] 3))
      have HNA : Hid ((¬ O k ∧ Tight (wr.alloc (Obj.cells #[.int .i64 (k : Int)] 3)) (xs k) (.slice av (xs k).length cv)) ∨ (O k ∧ Own3 (wr.alloc (Obj.cells #[.int .i64 (k : Int)] 3)) B (xs k) (.slice av (xs k).length cv))) := by
        rw [← ev]
        rcases HN.out with ⟨h1, h2⟩ | ⟨h1, h2⟩
        · exact .inl ⟨h1, h2.tch (X := fun _ => False) (Tch.of_below BA.out) (fun _ _ h => h)⟩
        · exact .inr ⟨h1, own_below h2 BA.out⟩
      have hcn := hid (cell_one_new wr (.int .i64 (k : Int)) 3)
      have hszA : B ≤ (wr.alloc (Obj.cells #[.int .i64 (k : Int)] 3)).heap.size := by simp; omega
      go_wp2_with (at_builtin; refine wpList_grow_one rfl (.tmp 14) (.tmp 16) rfl B (O k) (.slice av (xs k).length cv) (xs k) (k : Int) rfl HNA.out ⟨wr.heap.size, 0, none⟩ rfl hcn.out hLk hszA ?_; intro aa cc w1 hO1 hp1 ht1 hb1; (have HO1 := hid hO1); (have HP1 := hid hp1); (have HT1 := hid ht1); (have HB1 := hid hb1); (have RX := hid (HT1.out.row (row_below HS.out.row BA.out) (fun h => HG.out.neR k R hlt (by have := HS.out.todo k (Nat.le_refl _) hlt; rw [← this, ev]; exact h.2) rfl))); (have x1 := RX.out.cell (i := k) hlt); (have z1 := RX.out.frozen k); clear hO1 hp1 ht1 hb1)
      have HP2 : Hid (∀ b, (Value.slice aa ((xs k).length + 1) cc).ownBlock = some b → wr.heap.size ≤ b ∨ (O k ∧ (f' k).ownBlock = some b)) := fun b hb => by
        rcases HP1.out b hb with h | h
        · exact .inl (Nat.le_trans BA.out.size h)
        · rw [ev]; exact .inr h
      have HT2 : Hid (Tch (fun b => O k ∧ (f' k).ownBlock = some b) wr w1) := by
        rw [ev]
        exact (Tch.of_below BA.out).trans HT1.out
      have HS2 := hid (HS.out.step HG.out hlt HO1.out HP2.out HT2.out (hold.out k hlt))
      have HB2 := hid ((BwA.out.trans (HB1.out.mono hBB)).setCell (p := ⟨R, k, none⟩) hBR (.slice aa ((xs k).length + 1) cc))
      exact ⟨⟨k + 1, _, hlt, by simp, HS2, HB2⟩, by simp [intOf]; omega⟩
    · have hke := hid (show k = m by omega)
      have HS2 : Hid (GrowSt w wr B R m f f' O xs m) := by
        have := HS.out
        rw [hke.out] at this
        exact this
      clear HS
      go_wp2_with fail
      exact ⟨rfl, .tuple #[], by simp [results, Try.results49, go_sem], rfl, ⟨f', HS2.out.row, fun i hi => HS2.out.done i hi⟩, HS2.out.tch, HB⟩
end Go.Proofs.Qxb6605294a
