import Derived.Test.Qxb6605294aState
import Derived.Deep.Slices
set_option maxRecDepth 100000
namespace Go.Proofs.Qxb6605294a
open Go.ChangeShapes Go.WideShapes Go.ChangeAt Go.RowKit
set_option linter.unusedVariables false

theorem own3_cell {w : World} {B b j : Nat} {xs : List Int} {v : Value} (h : Own3 w B xs v) (hb : v.ownBlock = some b) (hj : j < xs.length) : w.cell? ⟨b, j, none⟩ = some (.int .i64 (xs.getD j 0)) := by
  obtain ⟨a1, c1, e1, l1, RF, _, _⟩ := retRow_own (d := (0 : Int)) h
  injection e1 with e1
  obtain ⟨b', off, e2, hcc⟩ := RF.out (by omega)
  subst e2
  rw [e1] at hb
  simp only [Value.ownBlock, Option.some.injEq] at hb
  subst hb
  have h2 := hcc _ hj
  have hoff : off = 0 := by
    obtain ⟨_, ⟨hv', _⟩ | ⟨g', cap, cur, hv', _⟩⟩ := h
    · rw [e1] at hv'; cases hv'
    · rw [e1] at hv'; cases hv'; rfl
  rw [hoff, Nat.zero_add] at h2
  exact h2
theorem own_some {w : World} {B : Nat} {e : TypeId} {size n : Nat} {v : Value} {l : List Value} (h : w.ownsRow B e size v n l) (h0 : 0 < n) : ∃ g cap, v = .slice (some ⟨g, 0, none⟩) n cap ∧ n ≤ cap := by
  obtain ⟨hl, ⟨hv, h0'⟩ | ⟨g, cap, cur, hv, hB, hh, h1, _⟩⟩ := h
  · omega
  · exact ⟨g, cap, hv, h1⟩
theorem getD_at {xs : List Int} {j : Nat} (d : Int) (hj : j < xs.length) : xs.getD j d = xs[j] := by
  rw [List.getD_eq_getElem?_getD, List.getElem?_eq_getElem hj]; rfl
abbrev bkf (fp : Nat → Value) (i : Nat) : Nat := ((fp i).ownBlock).getD 0
theorem own_nil {w : World} {B : Nat} {xs : List Int} (h : xs = []) : Own3 w B xs (.slice none 0 0) := by subst h; exact World.ownsRow_nil _ _ _ _
section
variable {w w' : World} {S n p : Nat} {pb : List (List Int)} {fp : Nat → Value}
theorem PoolAt.each (h : PoolAt w S n pb pb.length fp) {i : Nat} (hi : i < n) : Own3 w S (pb.getD i []) (fp i) := by
  by_cases hk : i < pb.length
  · exact h.own i hk
  · rw [h.rest i (by omega) hi]
    exact own_nil (by rw [List.getD_eq_getElem?_getD, List.getElem?_eq_none (by omega)]; rfl)
theorem PoolAt.apart' (h : PoolAt w S n pb pb.length fp) {i j b : Nat} (hi : i < n) (hj : j < n) (hij : i ≠ j) (hb : (fp i).ownBlock = some b) : (fp j).ownBlock ≠ some b := by
  by_cases hk : i < pb.length
  · by_cases hk' : j < pb.length
    · exact h.apart i j b hk hk' hij hb
    · rw [h.rest j (by omega) hj]; simp [Value.ownBlock]
  · rw [h.rest i (by omega) hi] at hb; simp [Value.ownBlock] at hb
theorem PoolAt.blk (h : PoolAt w S n pb pb.length fp) {i : Nat} (hi : i < n) (h0 : 0 < lenf pb i) : (fp i).ownBlock = some (bkf fp i) := by
  obtain ⟨g, cap, hv, _⟩ := own_some (h.each hi) h0
  unfold bkf
  rw [hv]; rfl
theorem PoolAt.mat (h : PoolAt w S n pb pb.length fp) (hp : w.rowIs p 22 n fp) : ∃ sz, Mat w p n fp (lenf pb) (bkf fp) (fun _ => 0) sz (vals pb) := by
  have hsz : ∀ i, i < n → ∃ m : Nat, 0 < lenf pb i → ∃ g, w.rowIs (bkf fp i) 3 m g := by
    intro i hi
    by_cases h0 : 0 < lenf pb i
    · obtain ⟨m, g, hg⟩ := own_row (h.each hi) (h.blk hi h0)
      exact ⟨m, fun _ => ⟨g, hg⟩⟩
    · exact ⟨0, fun h' => absurd h' h0⟩
  obtain ⟨sz, hs⟩ := Deep.choose_lt hsz
  refine ⟨sz, hp, fun i hi => ?_, fun i j hi hj => ?_, fun i hi h0 => hs i hi h0, fun i j i' j' hi hi' hj hj' hb he => ?_, fun i hi h0 => ?_⟩
  · obtain ⟨a, c, e, l, r, nn, k⟩ := retRow_own (d := (0 : Int)) (h.each hi)
    injection e with e
    refine ⟨a, c, e, l, fun h0 => ?_, fun hn => ?_⟩
    · obtain ⟨g, cap, hv, _⟩ := own_some (h.each hi) h0
      have : bkf fp i = g := by unfold bkf; rw [hv]; rfl
      rw [this]
      rw [e] at hv
      injection hv
    · have := nn.out hn
      exact ⟨by show (pb.getD i []).length = 0; rw [this.1]; rfl, this.2⟩
  · rw [Nat.zero_add]
    exact own3_cell (h.each hi) (h.blk hi (by omega)) hj
  · by_cases e : i = i'
    · subst e; exact ⟨rfl, by omega⟩
    · exact absurd (by rw [← hb]; exact h.blk hi (by omega)) (h.apart' hi' hi (Ne.symm e) (h.blk hi' (by omega)))
  · obtain ⟨g, hg⟩ := hs i hi h0
    exact rowIs_ne hg hp (by decide)
theorem growIn_pool {sz : Nat → Nat} {val : Nat → Nat → Int} (h : PoolAt w S n pb pb.length fp) (M : Mat w p n fp (lenf pb) (bkf fp) (fun _ => 0) sz val) (M' : Mat w' p n fp (lenf pb) (bkf fp) (fun _ => 0) sz (fun i j => flp (vals pb i j))) (T : Tch (fun b => ∃ i, i < n ∧ 0 < lenf pb i ∧ b = bkf fp i) w w') :
    GrowIn w' S p n fp (fun _ => True) (fun i => (pb.getD i []).map flp) := by
  refine ⟨M'.row, fun i hi => .inr ⟨trivial, ?_⟩, fun i b hi hb => ?_, fun i j b hi hj hij _ hb => h.apart' hi hj hij hb⟩
  · by_cases h0 : 0 < lenf pb i
    · obtain ⟨g, hg⟩ := M.thaw i hi h0
      obtain ⟨g', hg'⟩ := M'.thaw i hi h0
      have := own_again (l' := ((pb.getD i []).map flp).map (Value.int .i64)) (h.each hi) (h.blk hi h0) hg hg' (by simp) (fun j u hj => by
        rw [List.getElem?_map, List.getElem?_map] at hj
        by_cases hjl : j < (pb.getD i []).length
        · rw [List.getElem?_eq_getElem hjl] at hj
          have hc := M'.cel i j hi hjl
          rw [Nat.zero_add] at hc
          rw [hc]
          have e : vals pb i j = (pb.getD i [])[j] := getD_at _ hjl
          rw [e]
          simpa using hj
        · rw [List.getElem?_eq_none (by omega)] at hj; simp at hj)
      unfold Own3
      rw [List.length_map]; exact this
    · have he : pb.getD i [] = [] := List.length_eq_zero_iff.1 (by unfold lenf at h0; omega)
      have ho := h.each hi
      rw [he] at ho ⊢
      refine own_tch ho T ?_
      rintro b hb ⟨j, hj, hj0, rfl⟩
      by_cases e : i = j
      · subst e; exact h0 hj0
      · exact h.apart' hi hj e hb (h.blk hj hj0)
  · obtain ⟨m, g, hg⟩ := own_row (h.each hi) hb
    exact rowIs_ne hg M.row (by decide)
end
/-- lists that were grown -/
theorem lrow_grown {w : World} {B R m : Nat} {f : Nat → Value} {xs : Nat → List Int} (hr : w.rowIs R 22 m f) (h : ∀ i, i < m → Own3 w B (xs i) (f i)) : LRow w (some ⟨R, 0, none⟩) ((List.range m).map xs) := by
  refine fun _ => ⟨R, 0, f, rfl, hr.lt, fun i hi => ?_⟩
  simp only [List.length_map, List.length_range] at hi
  rw [Nat.zero_add]
  have hg : ((List.range m).map xs).getD i [] = xs i := by rw [List.getD_eq_getElem?_getD]; simp [hi]
  rw [hg]
  exact ⟨hr.cell hi, inner_own (h i hi)⟩
theorem hrow_grown {w : World} {h m : Nat} {f : Nat → Value} {ls : Nat → List (Int × Int)} (hr : w.rowIs h 99 m f) (H : ∀ i, i < m → ∃ B, Own2 w B (ls i) (f i)) : HRow w (some ⟨h, 0, none⟩) ((List.range m).map ls) := by
  refine fun _ => ⟨h, 0, f, rfl, hr.lt, fun i hi => ?_⟩
  simp only [List.length_map, List.length_range] at hi
  rw [Nat.zero_add]
  have hg : ((List.range m).map ls).getD i [] = ls i := by rw [List.getD_eq_getElem?_getD]; simp [hi]
  rw [hg]
  refine ⟨hr.cell hi, ?_⟩
  obtain ⟨B, ho⟩ := H i hi
  obtain ⟨a, c, e, r, l, nn⟩ := pairRow_own ho
  refine ⟨a, c, e, l, r, nn, fun x hx => ⟨Nat.zero_le _, ?_⟩⟩
  exact own_lt ho (by rw [e, hx]; rfl)
/-- links that may be written: link j of party i lies at (ub, (o i + j) * 2) -/
structure HMat (w : World) (h n : Nat) (fh : Nat → Value) (L o : Nat → Nat) (ub sz : Nat) (va : Nat → Nat → Int × Int) : Prop where
  row : w.rowIs h 99 n fh
  sl : ∀ i, i < n → ∃ a, fh i = .slice a (L i) (L i) ∧ (0 < L i → a = some ⟨ub, o i * 2, none⟩) ∧ (a = none → L i = 0)
  cel : ∀ i j, i < n → j < L i → w.cell? ⟨ub, o i * 2 + j * 2, none⟩ = some (.int .i64 (va i j).1) ∧ w.cell? ⟨ub, o i * 2 + j * 2 + 1, none⟩ = some (.int .i64 (va i j).2)
  thaw : ∀ i, i < n → 0 < L i → ∃ g, w.rowIs ub 102 sz g
  inj : ∀ i j i' j', i < n → i' < n → j < L i → j' < L i' → o i + j = o i' + j' → i = i' ∧ j = j'
section
variable {w w' : World} {h n : Nat} {fh : Nat → Value} {L o : Nat → Nat} {ub sz : Nat} {va va' : Nat → Nat → Int × Int}
theorem HMat.ne (H : HMat w h n fh L o ub sz va) {i : Nat} (hi : i < n) (h0 : 0 < L i) : ub ≠ h := by
  obtain ⟨g, hg⟩ := H.thaw i hi h0
  exact rowIs_ne hg H.row (by decide)
theorem HMat.congr (H : HMat w h n fh L o ub sz va) (he : ∀ i j, i < n → j < L i → va i j = va' i j) : HMat w h n fh L o ub sz va' :=
  ⟨H.row, H.sl, fun i j hi hj => by rw [← he i j hi hj]; exact H.cel i j hi hj, H.thaw, H.inj⟩
theorem HMat.tch {X : Nat → Prop} (H : HMat w h n fh L o ub sz va) (ht : Tch X w w') (hh : ¬ X h) (hu : ∀ i, i < n → 0 < L i → ¬ X ub) : HMat w' h n fh L o ub sz va :=
  ⟨ht.row H.row hh, H.sl, fun i j hi hj => ⟨ht.cell (H.cel i j hi hj).1 (hu i hi (by omega)), ht.cell (H.cel i j hi hj).2 (hu i hi (by omega))⟩, fun i hi h0 => by
    obtain ⟨g, hg⟩ := H.thaw i hi h0
    exact ⟨g, ht.row hg (hu i hi h0)⟩, H.inj⟩
def updp (va : Nat → Nat → Int × Int) (i j : Nat) (x : Int × Int) : Nat → Nat → Int × Int := fun a b => if a = i ∧ b = j then x else va a b
theorem HMat.set (H : HMat w h n fh L o ub sz va) {i j : Nat} (hi : i < n) (hj : j < L i) (x y : Int) : HMat ((w.setCell ⟨ub, o i * 2 + j * 2, none⟩ (.int .i64 x)).setCell ⟨ub, o i * 2 + j * 2 + 1, none⟩ (.int .i64 y)) h n fh L o ub sz (updp va i j (x, y)) := by
  have hne := H.ne hi (by omega)
  refine ⟨(H.row.of_block (Go.Deep.blk_setCell_other _ _ _ _ (by show h ≠ ub; omega))).of_block (Go.Deep.blk_setCell_other _ _ _ _ (by show h ≠ ub; omega)), H.sl, fun i' j' hi' hj' => ?_, fun i' hi' h0 => ?_, H.inj⟩
  · obtain ⟨c1, c2⟩ := H.cel i' j' hi' hj'
    by_cases e : o i' + j' = o i + j
    · obtain ⟨rfl, rfl⟩ := H.inj i' j' i j hi' hi hj' hj e
      unfold updp
      rw [if_pos ⟨rfl, rfl⟩]
      refine ⟨?_, ?_⟩
      · rw [World.cell?_setCell_other _ _ _ _ (by simp)]
        exact World.cell?_setCell_same _ _ _ c1
      · exact World.cell?_setCell_same _ _ _ ((World.cell?_setCell_other _ _ _ _ (by simp)).trans c2)
    · unfold updp
      rw [if_neg (fun h' => e (by rw [h'.1, h'.2]))]
      refine ⟨?_, ?_⟩
      · rw [World.cell?_setCell_other _ _ _ _ (by simp <;> omega), World.cell?_setCell_other _ _ _ _ (by simp <;> omega)]; exact c1
      · rw [World.cell?_setCell_other _ _ _ _ (by simp <;> omega), World.cell?_setCell_other _ _ _ _ (by simp <;> omega)]; exact c2
  · obtain ⟨g, hg⟩ := H.thaw i' hi' h0
    exact ⟨_, (hg.set _ _).set _ _⟩
theorem flat2_inv : ∀ (xs : List (Int × Int)) (j : Nat) (u : Value), (flat2 xs)[j]? = some u → j / 2 < xs.length ∧ ((j = j / 2 * 2 ∧ u = .int .i64 (xs.getD (j / 2) (0, 0)).1) ∨ (j = j / 2 * 2 + 1 ∧ u = .int .i64 (xs.getD (j / 2) (0, 0)).2)) := by
  intro xs j u hj
  have hjl : j < (flat2 xs).length := by
    rcases Nat.lt_or_ge j (flat2 xs).length with h | h
    · exact h
    · rw [List.getElem?_eq_none h] at hj; simp at hj
  rw [flat2_len] at hjl
  have hi : j / 2 < xs.length := by omega
  have h2 := flat2_get xs (j / 2) hi
  refine ⟨hi, ?_⟩
  rcases Nat.mod_two_eq_zero_or_one j with hm | hm
  · have e : j / 2 * 2 = j := by omega
    rw [e, hj] at h2
    exact .inl ⟨e.symm, by have := h2.1; simp at this; exact this⟩
  · have e : j / 2 * 2 + 1 = j := by omega
    rw [e, hj] at h2
    exact .inr ⟨e.symm, by have := h2.2; simp at this; exact this⟩
theorem HMat.tight (H : HMat w h n fh L o ub sz va) {i : Nat} (hi : i < n) {ls : List (Int × Int)} (hl : ls.length = L i) (he : ∀ j, j < L i → ls.getD j (0, 0) = va i j) : Tight2 w ls (fh i) := by
  obtain ⟨a, ha, h1, h2⟩ := H.sl i hi
  refine ⟨a, by rw [ha, hl], fun hn => List.length_eq_zero_iff.1 (by rw [hl]; exact h2 hn), fun b hb j u hj => ?_⟩
  obtain ⟨hjl, hu⟩ := flat2_inv ls j u hj
  have := h1 (by omega)
  rw [hb] at this
  cases this
  have hc := H.cel i (j / 2) hi (by omega)
  rw [add_at]
  rcases hu with ⟨e1, rfl⟩ | ⟨e1, rfl⟩
  · rw [he _ (by omega)]
    have e2 : o i * 2 + j = o i * 2 + j / 2 * 2 := by omega
    rw [e2]; exact hc.1
  · rw [he _ (by omega)]
    have e2 : o i * 2 + j = o i * 2 + j / 2 * 2 + 1 := by omega
    rw [e2]; exact hc.2
end
end Go.Proofs.Qxb6605294a
