import Derived.Test.Qxb6605294aState3
import Derived.Test.Qxb6605294aShape
import Derived.Test.Qxb6605294aZz6
set_option maxRecDepth 100000
namespace Go.Proofs.Qxb6605294a
open Go.ChangeShapes Go.WideShapes Go.ChangeAt Go.RowKit
set_option linter.unusedVariables false

theorem flp_eq (x : Int) : flp x = bits BinOp.xor IntKind.i64 (-1) x := by unfold flp; rw [if_pos (by rfl)]
/-- only blocks of the parts in s changed -/
def TM (cls : Nat → Nat) (s : List Nat) (w w' : World) : Prop := Tch (fun b => cls b ∈ s) w w'
section
variable {cls : Nat → Nat} {s s' : List Nat} {w w' w'' : World}
theorem TM.app (h : TM cls s w w') (h' : TM cls s' w' w'') : TM cls (s ++ s') w w'' := Tch.trans (Tch.mono h (fun b _ hb => List.mem_append_left _ hb)) (Tch.mono h' (fun b _ hb => List.mem_append_right _ hb))
theorem TM.refl (cls : Nat → Nat) (s : List Nat) (w : World) : TM cls s w w := Tch.refl _ _
theorem TM.below (h : TM cls s w w') (hb : Below w'.heap.size w' w'') : TM cls s w w'' := Tch.trans h (Tch.of_below hb)
theorem TM.drew (h : TM cls s w w') : TM cls s w w'.drew := h
theorem TM.set {b i k : Nat} {v : Value} (h : TM cls s w w') (hb : cls b = k) (hk : k ∈ s) : TM cls s w (w'.setCell ⟨b, i, none⟩ v) := Tch.set h (by show cls b ∈ s; rw [hb]; exact hk)
theorem TM.but {b k : Nat} (h : TM cls s w w') (hb : cls b = k) (hk : k ∈ s) (h' : But b w' w'') : TM cls s w w'' := Tch.trans h ⟨h'.1, fun c hc hx => h'.2 c hc (fun e => hx (by show cls c ∈ s; rw [e, hb]; exact hk))⟩
theorem TM.row {b n k : Nat} {t : TypeId} {f : Nat → Value} (h : TM cls s w w') (hr : w.rowIs b t n f) (hb : cls b = k) (hk : k ∉ s) : w'.rowIs b t n f := Tch.row h hr (by show cls b ∉ s; rw [hb]; exact hk)
theorem TM.fm {b n k : Nat} {D : DU} (h : TM cls s w w') (hf : FM w b n D) (hb : cls b = k) (hk : k ∉ s) : FM w' b n D := hf.block (h.2 b hf.lt (by show cls b ∉ s; rw [hb]; exact hk))
theorem TM.own {B : Nat} {e : TypeId} {size n k : Nat} {v : Value} {l : List Value} (h : TM cls s w w') (ho : w.ownsRow B e size v n l) (hb : ∀ b, v.ownBlock = some b → cls b = k) (hk : k ∉ s) : w'.ownsRow B e size v n l := own_tch ho h (fun b h' => by show cls b ∉ s; rw [hb b h']; exact hk)
theorem TM.mat {R m r a : Nat} {f : Nat → Value} {L bk of sz : Nat → Nat} {val : Nat → Nat → Int} (h : TM cls s w w') (M : Mat w R m f L bk of sz val) (hR : cls R = r) (hr : r ∉ s) (hb : ∀ i, i < m → 0 < L i → cls (bk i) = a) (ha : a ∉ s) : Mat w' R m f L bk of sz val :=
  M.tch h (by show cls R ∉ s; rw [hR]; exact hr) (fun i hi h0 => by show cls (bk i) ∉ s; rw [hb i hi h0]; exact ha)
theorem TM.hmat {h n ub sz r a : Nat} {fh : Nat → Value} {L o : Nat → Nat} {va : Nat → Nat → Int × Int} (T : TM cls s w w') (M : HMat w h n fh L o ub sz va) (hR : cls h = r) (hr : r ∉ s) (hb : ∀ i, i < n → 0 < L i → cls ub = a) (ha : a ∉ s) : HMat w' h n fh L o ub sz va :=
  M.tch T (by show cls h ∉ s; rw [hR]; exact hr) (fun i hi h0 => by show cls ub ∉ s; rw [hb i hi h0]; exact ha)
theorem TM.list {S T R r a : Nat} {xss : List (List Int)} {f : Nat → Value} {v : Value} (h : TM cls s w w') (H : ListAt w S T R xss f v) (hR : cls R = r) (hr : r ∉ s) (hb : ∀ b, v.ownBlock = some b → cls b = a) (ha : a ∉ s) : ListAt w' S T R xss f v :=
  ⟨H.lo, H.hi, h.row H.row hR hr, h.own H.own hb ha, H.cut, H.top⟩
theorem TM.pool {S n k : Nat} {pb : List (List Int)} {fp : Nat → Value} (h : TM cls s w w') (H : PoolAt w S n pb pb.length fp) (hl : pb.length ≤ n) (hb : ∀ i b, i < n → (fp i).ownBlock = some b → cls b = k) (hk : k ∉ s) : PoolAt w' S n pb pb.length fp :=
  ⟨fun i hi => h.own (H.own i hi) (fun b hb' => hb i b (by omega) hb') hk, H.rest, H.apart⟩
end
section
variable {w w' : World} {B c n : Nat} {pss : List (List (Int × Int))} {hb co cb pb : List (List Int)} {D : DU} {pl : List Bool} {h F p P q rb : Nat} {v6 u7 : Value} {fh fp : Nat → Value} {k : Nat} {R1 R2 R3 : Nat} {f1 f2 f3 : Nat → Value} {v1 v2 v3 : Value} {S0 S1 S2 S3 S4 : Nat}
theorem CloneAt.below (H : CloneAt w B c n pss hb co cb pb D pl h F p P q rb v6 u7 fh fp k R1 R2 R3 f1 f2 f3 v1 v2 v3 S0 S1 S2 S3 S4) (hB : Below w.heap.size w w') : CloneAt w' B c n pss hb co cb pb D pl h F p P q rb v6 u7 fh fp k R1 R2 R3 f1 f2 f3 v1 v2 v3 S0 S1 S2 S3 S4 :=
  ⟨H.bc, H.s01, H.s12, H.s23, H.s34, row_below H.rc hB, H.bun.below hB, own_below H.links hB, H.top7, H.cut, H.l1.below hB, H.l2.below hB, H.l3.below hB, H.pool.below hB⟩
end
section
variable {w w' : World} {B c n : Nat} {pss : List (List (Int × Int))} {hb co cb pb : List (List Int)} {D : DU} {pl : List Bool} {h F p P q rb : Nat} {v6 u7 : Value} {fh fp : Nat → Value} {k : Nat} {R1 R2 R3 : Nat} {f1 f2 f3 : Nat → Value} {v1 v2 v3 : Value} {S0 S1 S2 S3 S4 : Nat}
theorem CloneAt.hrow (H : CloneAt w B c n pss hb co cb pb D pl h F p P q rb v6 u7 fh fp k R1 R2 R3 f1 f2 f3 v1 v2 v3 S0 S1 S2 S3 S4) (hn : n = pss.length) : HRow w (some ⟨h, 0, none⟩) pss := by
  subst hn
  exact hrow_cut H.bun.rh H.links H.cut
end
theorem zip_at {A0 A1 : List (List Int)} (h : A1.length = A0.length) {k j : Nat} {xs ys : List Int} (hx : A0.getD k [] = xs) (hy : A1.getD k [] = ys) (hl : ys.length = xs.length) (hj : j < xs.length) : valp (zipL A0 A1) k j = (xs.getD j 0, ys.getD j 0) := by
  unfold valp
  rw [zipL_get h, hx, hy]
  exact zip_get hl hj rfl rfl
theorem zip_len {A0 A1 : List (List Int)} (h : A1.length = A0.length) {k : Nat} {xs ys : List Int} (hx : A0.getD k [] = xs) (hy : A1.getD k [] = ys) (hl : ys.length = xs.length) : lenf (zipL A0 A1) k = xs.length := by
  unfold lenf
  rw [zipL_get h, hx, hy, List.length_zip, hl]
  omega
/-! ### poolable, flipped -/
def PaAt (w : World) (b6 sz : Nat) (pl : List Bool) (k : Nat) : Prop := (∃ g, w.rowIs b6 4 sz g) ∧ ∀ j, j < pl.length → w.cell? ⟨b6, j, none⟩ = some (.bool (if j < k then !(pl.getD j false) else pl.getD j false))
theorem pa_open {w : World} {B : Nat} {v6 : Value} {pl : List Bool} (h : w.ownsRow B 4 1 v6 pl.length (pl.map Value.bool)) :
    ∃ a6 c6 b6 sz, v6 = .slice a6 pl.length c6 ∧ pl.length ≤ c6 ∧ (a6 = none → pl = [] ∧ c6 = 0) ∧ (0 < pl.length → a6 = some ⟨b6, 0, none⟩ ∧ v6.ownBlock = some b6 ∧ B ≤ b6 ∧ PaAt w b6 sz pl 0) := by
  obtain ⟨a, c, e, l, r, nn, k⟩ := retRow_own (d := false) h
  injection e with e
  by_cases h0 : 0 < pl.length
  · obtain ⟨g, cap, hv, _⟩ := own_some h h0
    have hob : v6.ownBlock = some g := by rw [hv]; rfl
    obtain ⟨sz, f, hf⟩ := own_row h hob
    have ea : a = some ⟨g, 0, none⟩ := by rw [e] at hv; injection hv
    refine ⟨a, c, g, sz, e, l, nn.out, fun _ => ⟨ea, hob, own_ge h hob, ⟨f, hf⟩, fun j hj => ?_⟩⟩
    obtain ⟨b, off, e2, hc⟩ := r.out h0
    rw [ea] at e2
    cases e2
    have := hc j hj
    rw [Nat.zero_add] at this
    rw [if_neg (by omega)]; exact this
  · exact ⟨a, c, 0, 0, e, l, nn.out, fun h' => absurd h' h0⟩
theorem PaAt.set {w : World} {b6 sz k : Nat} {pl : List Bool} (h : PaAt w b6 sz pl k) (hk : k < pl.length) : PaAt (w.setCell ⟨b6, k, none⟩ (.bool (!(pl.getD k false)))) b6 sz pl (k + 1) := by
  obtain ⟨⟨g, hg⟩, hc⟩ := h
  refine ⟨⟨_, hg.set k _⟩, fun j hj => ?_⟩
  by_cases e : j = k
  · subst e
    rw [World.cell?_setCell_same _ _ _ (hc j hj), if_pos (by omega)]
  · rw [World.cell?_setCell_other _ _ _ _ (by simp <;> omega), hc j hj]
    by_cases h1 : j < k
    · rw [if_pos h1, if_pos (by omega)]
    · rw [if_neg h1, if_neg (by omega)]
theorem PaAt.tm {cls : Nat → Nat} {s : List Nat} {w w' : World} {b6 sz k : Nat} {pl : List Bool} (h : PaAt w b6 sz pl k) (T : TM cls s w w') (hb : cls b6 ∉ s) : PaAt w' b6 sz pl k := by
  obtain ⟨⟨g, hg⟩, hc⟩ := h
  exact ⟨⟨g, Tch.row T hg hb⟩, fun j hj => Tch.cell T (hc j hj) hb⟩
theorem PaAt.row {w : World} {b6 sz : Nat} {pl : List Bool} (h : PaAt w b6 sz pl pl.length) : Row Value.bool false w (some ⟨b6, 0, none⟩) (pl.map (!·)) := by
  refine fun _ => ⟨b6, 0, rfl, fun i hi => ?_⟩
  rw [List.length_map] at hi
  rw [Nat.zero_add, h.2 i hi, if_pos hi, List.getD_eq_getElem?_getD, List.getD_eq_getElem?_getD, List.getElem?_map, List.getElem?_eq_getElem hi]
  rfl
/-! ### queued and pool -/
theorem q_step {w : World} {q n k : Nat} (h : w.rowIs q 4 n (fun j => .bool (decide (j < k)))) : (w.setCell ⟨q, k, none⟩ (.bool true)).rowIs q 4 n (fun j => .bool (decide (j < k + 1))) := by
  refine (h.set k (.bool true)).congr fun i hi => ?_
  by_cases e : i = k
  · subst e; rw [if_pos rfl]; simp
  · rw [if_neg e]
    congr 1
    by_cases h1 : i < k
    · simp [h1]; omega
    · simp [h1]; omega
theorem p_step {w : World} {P n k : Nat} (h : w.rowIs P 100 n (fun j => .int .i64 (if j < k then (j : Int) + 1 else 0))) : (w.setCell ⟨P, k, none⟩ (.int .i64 ((k : Int) + 1))).rowIs P 100 n (fun j => .int .i64 (if j < k + 1 then (j : Int) + 1 else 0)) := by
  refine (h.set k (.int .i64 ((k : Int) + 1))).congr fun i hi => ?_
  by_cases e : i = k
  · subst e; rw [if_pos rfl, if_pos (by omega)]
  · rw [if_neg e]
    by_cases h1 : i < k
    · rw [if_pos h1, if_pos (by omega)]
    · rw [if_neg h1, if_neg (by omega)]
/-! ### the links, flipped -/
def flp2 (r : Int × Int) : Int × Int := (flp r.1, flp r.2)
def fp2 (va : Nat → Nat → Int × Int) (k j : Nat) : Nat → Nat → Int × Int := fun a b => if a < k ∨ (a = k ∧ b < j) then flp2 (va a b) else va a b
theorem fp2_step (va : Nat → Nat → Int × Int) (k j : Nat) : updp (fp2 va k j) k j (flp2 (va k j)) = fp2 va k (j + 1) := by
  funext a b
  unfold updp fp2
  by_cases e : a = k ∧ b = j
  · obtain ⟨rfl, rfl⟩ := e
    rw [if_pos ⟨rfl, rfl⟩, if_pos (.inr ⟨rfl, by omega⟩)]
  · rw [if_neg e]
    by_cases h : a < k ∨ (a = k ∧ b < j)
    · rw [if_pos h, if_pos (by rcases h with h | h; exact .inl h; exact .inr ⟨h.1, by omega⟩)]
    · rw [if_neg h, if_neg (by
        rintro (h' | ⟨h1, h2⟩)
        · exact h (.inl h')
        · exact h (.inr ⟨h1, by omega⟩))]
theorem fp2_next {m : Nat} {L : Nat → Nat} (va : Nat → Nat → Int × Int) (k : Nat) : ∀ i j, i < m → j < L i → fp2 va k (L k) i j = fp2 va (k + 1) 0 i j := by
  intro i j hi hj
  unfold fp2
  by_cases h : i < k + 1
  · rw [if_pos (show i < k + 1 ∨ (i = k + 1 ∧ j < 0) from .inl h), if_pos (by
      by_cases e : i = k
      · subst e; exact .inr ⟨rfl, hj⟩
      · exact .inl (by omega))]
  · rw [if_neg (show ¬ (i < k + 1 ∨ (i = k + 1 ∧ j < 0)) by omega), if_neg (by omega)]
/-- party i's links at the end -/
def lsf (pss : List (List (Int × Int))) (i : Nat) : List (Int × Int) := (pss.getD i []).map flp2 ++ [((i : Int), (i : Int))]
structure GL (wI wr : World) (S h n : Nat) (fh fh' : Nat → Value) (pss : List (List (Int × Int))) (k : Nat) : Prop where
  row : wr.rowIs h 99 n fh'
  todo : ∀ i, k ≤ i → i < n → fh' i = fh i
  done : ∀ i, i < k → Own2 wr S (lsf pss i) (fh' i)
theorem GL.step {wI wr w1 : World} {S h n k : Nat} {fh fh' : Nat → Value} {pss : List (List (Int × Int))} {v : Value} (H : GL wI wr S h n fh fh' pss k) (hS : h < S) (hw : S ≤ wr.heap.size) (hr : w1.rowIs h 99 n (fun j => if j = k then v else fh' j)) (ho : Own2 w1 wr.heap.size (lsf pss k) v) (hb : But h wr w1) : GL wI w1 S h n fh (fun j => if j = k then v else fh' j) pss (k + 1) := by
  refine ⟨hr, fun i h1 h2 => ?_, fun i hi => ?_⟩
  · rw [if_neg (by omega)]; exact H.todo i (by omega) h2
  · by_cases e : i = k
    · subst e; simp only [if_true]; exact own_mono ho hw
    · simp only [if_neg e]
      exact own_but_lt (H.done i (by omega)) hb hS
theorem factsD_size : ∀ (ks : List (Int × Int)) (vs : List Int) (D : DU), Maps.Tidy D → (∀ k ∈ ks, wfK k) → (∀ k ∈ ks, Maps.has D (kl k) = true) → Maps.size (factsD ks vs D) = Maps.size D
  | [], vs, D, _, _, _ => by
    have : factsD [] vs D = D := by unfold factsD; rfl
    rw [this]
  | x :: ks, [], D, _, _, _ => by
    have : factsD (x :: ks) [] D = D := by unfold factsD; rfl
    rw [this]
  | x :: ks, v :: vs, D, ht, hw, hh => by
    show Maps.size (factsD ks vs (D.put (kl x) (.lit (.int .i64 v)))) = _
    have hx := kl_key (hw x (by simp))
    rw [factsD_size ks vs _ (ht.put hx _) (fun y hy => hw y (by simp [hy])) (fun y hy => ?_), Maps.size_put ht, if_pos (hh x (by simp))]
    by_cases e : kl y = kl x
    · rw [e]; exact Maps.has_put_same ht.isMap hx _
    · rw [Maps.has_put_other e]; exact hh y (by simp [hy])
/-- the links at the end, read as two lists of lists -/
theorem lsf_fst {A0 A1 : List (List Int)} (h : A1.length = A0.length) (h2 : ∀ i, i < A0.length → (A1.getD i []).length = (A0.getD i []).length) {i : Nat} (hi : i < A0.length) : (lsf (zipL A0 A1) i).map Prod.fst = (A0.getD i []).map flp ++ [(i : Int)] := by
  have e := zipL_get h i
  unfold lsf
  rw [e, List.map_append, List.map_map]
  have : (Prod.fst ∘ flp2) = (flp ∘ Prod.fst) := rfl
  rw [this, ← List.map_map, List.map_fst_zip (by rw [h2 i hi]; exact Nat.le_refl _)]
  rfl
theorem lsf_snd {A0 A1 : List (List Int)} (h : A1.length = A0.length) (h2 : ∀ i, i < A0.length → (A1.getD i []).length = (A0.getD i []).length) {i : Nat} (hi : i < A0.length) : (lsf (zipL A0 A1) i).map Prod.snd = (A1.getD i []).map flp ++ [(i : Int)] := by
  have e := zipL_get h i
  unfold lsf
  rw [e, List.map_append, List.map_map]
  have : (Prod.snd ∘ flp2) = (flp ∘ Prod.snd) := rfl
  rw [this, ← List.map_map, List.map_snd_zip (by rw [h2 i hi]; exact Nat.le_refl _)]
  rfl
theorem range_getD {α : Type} (f : Nat → List α) {n i : Nat} (hi : i < n) : ((List.range n).map f).getD i [] = f i := by rw [List.getD_eq_getElem?_getD]; simp [hi]
theorem PoolAt.mono {w : World} {S S' n k : Nat} {pb : List (List Int)} {fp : Nat → Value} (h : PoolAt w S n pb k fp) (hS : S' ≤ S) : PoolAt w S' n pb k fp := ⟨fun i hi => own_mono (h.own i hi) hS, h.rest, h.apart⟩
theorem growIn_tm {cls : Nat → Nat} {s : List Nat} {w w' : World} {B R m r a : Nat} {f : Nat → Value} {xs : Nat → List Int} (G : GrowIn w B R m f (fun _ => True) xs) (T : TM cls s w w') (hR : cls R = r) (hr : r ∉ s) (hb : ∀ i b, i < m → (f i).ownBlock = some b → cls b = a) (ha : a ∉ s) : GrowIn w' B R m f (fun _ => True) xs := by
  refine ⟨T.row G.row hR hr, fun i hi => .inr ⟨trivial, ?_⟩, G.neR, G.apart⟩
  rcases G.one i hi with ⟨h, _⟩ | ⟨_, h⟩
  · exact absurd trivial h
  · exact T.own h (fun b hb' => hb i b hi hb') ha
theorem fm_tight {w : World} {b n : Nat} {D : DU} (h : FM w b n D) : FM w b (Maps.size D) D := by
  obtain ⟨es, clock, hb, F, hs, rfl⟩ := h
  exact ⟨es, clock, hb, F, by simp [Maps.size, length_sorted], rfl⟩
theorem to_eq {A0 A1 : List (List Int)} (h : A1.length = A0.length) (h2 : ∀ i, i < A0.length → (A1.getD i []).length = (A0.getD i []).length) : ((List.range A0.length).map (lsf (zipL A0 A1))).map (·.map Prod.fst) = (List.range A0.length).map (fun (i : Nat) => (A0.getD i []).map flp ++ [(i : Int)]) := by
  rw [List.map_map]
  exact List.map_congr_left fun i hi => lsf_fst h h2 (List.mem_range.1 hi)
theorem sh_eq {A0 A1 : List (List Int)} (h : A1.length = A0.length) (h2 : ∀ i, i < A0.length → (A1.getD i []).length = (A0.getD i []).length) : ((List.range A0.length).map (lsf (zipL A0 A1))).map (·.map Prod.snd) = (List.range A0.length).map (fun (i : Nat) => (A1.getD i []).map flp ++ [(i : Int)]) := by
  rw [List.map_map]
  exact List.map_congr_left fun i hi => lsf_snd h h2 (List.mem_range.1 hi)
theorem ls_le {A0 A1 : List (List Int)} (h : A1.length = A0.length) (hn : A0.length + tot A0 ≤ 1048576) (i : Nat) : (((List.range A0.length).map (lsf (zipL A0 A1))).getD i []).length ≤ 1048576 := by
  by_cases hi : i < A0.length
  · rw [range_getD _ hi]
    have := zipL_get_le h i
    unfold lsf
    simp only [List.length_append, List.length_map, List.length_cons, List.length_nil]
    omega
  · rw [List.getD_eq_getElem?_getD, List.getElem?_eq_none (by simp; omega)]; simp
theorem cut_blk {α : Type} {s : Nat} {v : Value} {xss : List (List α)} {n : Nat} {f : Nat → Value} (C : CutAt s v xss n f) {i b : Nat} (hi : i < n) (hb : (f i).ownBlock = some b) : v.ownBlock = some b := by
  obtain ⟨a, ha, ⟨_, rfl, _⟩ | ⟨ab, p, hab, rfl, _⟩⟩ := C i hi
  · rw [ha] at hb; simp [Value.ownBlock] at hb
  · rw [ha] at hb; simp only [Value.ownBlock, Option.some.injEq] at hb
    rw [← hb]; exact hab
theorem map_flp2 (xs : List (Int × Int)) {j : Nat} (hj : j < xs.length) : (xs.map flp2).getD j (0, 0) = flp2 (xs.getD j (0, 0)) := by
  rw [List.getD_eq_getElem?_getD, List.getD_eq_getElem?_getD, List.getElem?_map, List.getElem?_eq_getElem hj]; rfl
theorem row_succ {w : World} {P n : Nat} {e : TypeId} (h : w.rowIs P e n (fun j => .int .i64 ((j : Int) + 1))) : IRow w (some ⟨P, 0, none⟩) ((List.range n).map (fun (j : Nat) => (j : Int) + 1)) := by
  refine row_filled (e := e) (f := fun j => .int .i64 ((j : Int) + 1)) (by rw [List.length_map, List.length_range]; exact h) (fun i hi => ?_)
  rw [List.length_map, List.length_range] at hi
  rw [List.getD_eq_getElem?_getD]
  simp [hi]
theorem succ_get {n k : Nat} (hk : k < n) : ((List.range n).map (fun (j : Nat) => (j : Int) + 1)).getD k 0 = (k : Int) + 1 := by
  rw [List.getD_eq_getElem?_getD]
  simp [hk]
theorem grown_getD {A : List (List Int)} {m i : Nat} (hi : i < m) : ((List.range m).map (fun (i : Nat) => (A.getD i []).map flp ++ [(i : Int)])).getD i [] = (A.getD i []).map flp ++ [(i : Int)] := range_getD _ hi
set_option maxHeartbeats 1000000 in
theorem reached_nil (g : Nat) (w : World) (h9 : w.cell? ⟨g, 9, none⟩ = some (.pointer none)) :
    Calls Try.prog 39 #[.pointer (some ⟨g, 0, none⟩)] w fun e w' => e = .returned (.tuple #[.bool false, .slice none 0 0, .slice none 0 0, .int .u32 0]) ∧ Hid (Below w.heap.size w w') := by
  go_enter Try.func39, Try.ntmps39
  go_wp2_with fail
  refine bodyPost_ret (v := .tuple #[.bool false, .slice none 0 0, .slice none 0 0, .int .u32 0]) (by simp [results, Try.results39, go_sem]) rfl ⟨rfl, Below.refl _ _⟩
end Go.Proofs.Qxb6605294a
