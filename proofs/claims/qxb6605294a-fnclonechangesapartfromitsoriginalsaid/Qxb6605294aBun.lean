import Derived.Test.Qxb6605294aLinks
set_option maxRecDepth 100000
namespace Go.Proofs.Qxb6605294a
open Go.ChangeShapes Go.WideShapes Go.ChangeAt Go.RowKit
set_option linter.unusedVariables false

theorem own_mono {w : World} {B B' : Nat} {e : TypeId} {size n : Nat} {v : Value} {l : List Value} (h : w.ownsRow B' e size v n l) (hb : B ≤ B') : w.ownsRow B e size v n l := by
  obtain ⟨hl, ⟨hv, h0⟩ | ⟨g, cap, cur, hv, hB, hh, h1⟩⟩ := h
  · exact ⟨hl, .inl ⟨hv, h0⟩⟩
  · exact ⟨hl, .inr ⟨g, cap, cur, hv, Nat.le_trans hb hB, hh, h1⟩⟩
theorem RegT.mono {w : World} {B B' rb n : Nat} (h : RegT w B' rb n) (hb : B ≤ B') : RegT w B rb n := by
  obtain ⟨ab, h1, h2, h3, h4⟩ := h
  exact ⟨ab, Nat.le_trans hb h1, Nat.le_trans hb h2, h3, h4⟩
theorem own_lt {w : World} {B : Nat} {e : TypeId} {size n : Nat} {v : Value} {l : List Value} (h : w.ownsRow B e size v n l) {b : Nat} (hb : v.ownBlock = some b) : b < w.heap.size := (h.lt b hb).2
theorem own_ge {w : World} {B : Nat} {e : TypeId} {size n : Nat} {v : Value} {l : List Value} (h : w.ownsRow B e size v n l) {b : Nat} (hb : v.ownBlock = some b) : B ≤ b := (h.lt b hb).1
theorem own_slice {w : World} {B : Nat} {e : TypeId} {size n : Nat} {v : Value} {l : List Value} (h : w.ownsRow B e size v n l) : ∃ a c, v = .slice a n c := by
  obtain ⟨hl, ⟨hv, h0⟩ | ⟨g, cap, cur, hv, hB, hh, h1⟩⟩ := h
  · exact ⟨none, 0, by rw [hv, h0]⟩
  · exact ⟨_, _, hv⟩
theorem blkOf_own {v : Value} {b : Nat} (h : v.ownBlock = some b) : blkOf v b := by
  cases v <;> simp [Value.ownBlock] at h
  rename_i a n c
  cases a <;> simp at h
  exact h.symm

/-- all older blocks but X are as they were -/
def But (X : Nat) (w w' : World) : Prop := w.heap.size ≤ w'.heap.size ∧ ∀ b, b < w.heap.size → b ≠ X → w'.heap[b]? = w.heap[b]?
theorem But.refl (X : Nat) (w : World) : But X w w := ⟨Nat.le_refl _, fun _ _ _ => rfl⟩
theorem But.of_below {X : Nat} {w w' : World} (h : Below w.heap.size w w') : But X w w' := ⟨h.size, fun b hb _ => h.block b hb⟩
theorem But.trans {X : Nat} {w w' w'' : World} (h : But X w w') (h' : But X w' w'') : But X w w'' :=
  ⟨Nat.le_trans h.1 h'.1, fun b hb hx => (h'.2 b (Nat.lt_of_lt_of_le hb h.1) hx).trans (h.2 b hb hx)⟩
theorem But.set {X : Nat} {w w' : World} {i : Nat} {v : Value} (h : But X w w') : But X w (w'.setCell ⟨X, i, none⟩ v) :=
  ⟨by simpa using h.1, fun b hb hx => (Go.Deep.blk_setCell_other _ _ _ _ (by show b ≠ X; exact hx)).trans (h.2 b hb hx)⟩
theorem But.grown {X : Nat} {w w' w'' : World} {row : Option Nat} (h : But X w w') (hg : w'.grownBy w'' row) (hr : ∀ k, row = some k → k = X ∨ w.heap.size ≤ k) : But X w w'' :=
  ⟨Nat.le_trans h.1 hg.size, fun b hb hx => (hg.block b (Nat.lt_of_lt_of_le hb h.1) (fun e => by rcases hr b e.symm with h | h <;> omega)).trans (h.2 b hb hx)⟩
theorem But.drew {X : Nat} {w w' : World} (h : But X w w') : But X w w'.drew := h
theorem But.drewN {X : Nat} {w w' : World} (h : But X w w') (q : Nat) : But X w (w'.drewN q) := h

/-- no row of another tag than T lies at X -/
def OnlyTag (w : World) (X : Nat) (T : TypeId) : Prop := ∀ t m f, w.rowIs X t m f → t = T
theorem onlyTag_row {w : World} {X m : Nat} {T : TypeId} {f : Nat → Value} (h : w.rowIs X T m f) : OnlyTag w X T := by
  intro t m' f' h'
  obtain ⟨c, h1, _⟩ := h
  obtain ⟨c', h2, _⟩ := h'
  rw [h1] at h2
  cases h2; rfl
theorem onlyTag_fm {w : World} {X k : Nat} {D : DU} (h : FM w X k D) (T : TypeId) : OnlyTag w X T := by
  intro t m' f' h'
  exact absurd rfl (fm_ne h h')
theorem row_but {w w' : World} {X b m : Nat} {t T : TypeId} {f : Nat → Value} (h : w.rowIs b t m f) (hk : But X w w') (hX : OnlyTag w X T) (ht : t ≠ T) : w'.rowIs b t m f :=
  h.of_block (hk.2 b h.lt (fun e => by subst e; exact ht (hX _ _ _ h)))
theorem row_but' {w w' : World} {X b m : Nat} {t : TypeId} {f : Nat → Value} (h : w.rowIs b t m f) (hk : But X w w') (hX : b ≠ X) : w'.rowIs b t m f :=
  h.of_block (hk.2 b h.lt hX)
theorem own_tag {w : World} {B : Nat} {e : TypeId} {size n b : Nat} {v : Value} {l : List Value} (h : w.ownsRow B e size v n l) (hb : v.ownBlock = some b) : ∃ m f, w.rowIs b e m f := by
  obtain ⟨hl, ⟨hv, h0⟩ | ⟨g, cap, cur, hv, hB, hh, h1⟩⟩ := h
  · subst hv; simp [Value.ownBlock] at hb
  · subst hv
    simp only [Value.ownBlock, Option.some.injEq] at hb
    subst hb
    exact ⟨cur.size, fun i => cur.getD i undef, cur, hh, rfl, fun i hi => arr_getD hi⟩
theorem own_but {w w' : World} {X B : Nat} {e : TypeId} {size n : Nat} {v : Value} {l : List Value} (h : w.ownsRow B e size v n l) (hk : But X w w') (hX : v.ownBlock ≠ some X) : w'.ownsRow B e size v n l := by
  obtain ⟨hl, ⟨hv, h0⟩ | ⟨g, cap, cur, hv, hB, hh, h1⟩⟩ := h
  · exact ⟨hl, .inl ⟨hv, h0⟩⟩
  · refine ⟨hl, .inr ⟨g, cap, cur, hv, hB, (hk.2 g (Array.getElem?_eq_some_iff.1 hh).1 (fun e => hX ?_)).trans hh, h1⟩⟩
    rw [hv, ← e]; rfl
theorem own_but_tag {w w' : World} {X B : Nat} {e T : TypeId} {size n : Nat} {v : Value} {l : List Value} (h : w.ownsRow B e size v n l) (hk : But X w w') (hX : OnlyTag w X T) (ht : e ≠ T) : w'.ownsRow B e size v n l :=
  own_but h hk (fun hb => by obtain ⟨m, f, hr⟩ := own_tag h hb; exact ht (hX _ _ _ hr))
theorem own_but_lt {w w' : World} {X B : Nat} {e : TypeId} {size n : Nat} {v : Value} {l : List Value} (h : w.ownsRow B e size v n l) (hk : But X w w') (hX : X < B) : w'.ownsRow B e size v n l :=
  own_but h hk (fun hb => by have := own_ge h hb; omega)
theorem fm_but {w w' : World} {X b k m : Nat} {t : TypeId} {f : Nat → Value} {D : DU} (h : FM w b k D) (hk : But X w w') (hX : w.rowIs X t m f) : FM w' b k D :=
  h.block (hk.2 b h.lt (fm_ne h hX))
theorem RegT.but {w w' : World} {X B rb n : Nat} {T : TypeId} (h : RegT w B rb n) (hk : But X w w') (hX : OnlyTag w X T) (h1 : T ≠ 106) (h2 : T ≠ 61) : RegT w' B rb n := by
  obtain ⟨ab, b1, b2, r1, r2⟩ := h
  exact ⟨ab, b1, b2, row_but r1 hk hX h1.symm, row_but r2 hk hX h2.symm⟩
/-- the clone's parts, while they are filled; all lie in [B, S) -/
structure Bun (w : World) (B S n : Nat) (pl : List Bool) (h F p P q rb : Nat) (v6 : Value) (fh fp : Nat → Value) (k : Nat) (D : DU) : Prop where
  bh : B ≤ h ∧ h < S
  bF : B ≤ F ∧ F < S
  bp : B ≤ p ∧ p < S
  bP : B ≤ P ∧ P < S
  bq : B ≤ q ∧ q < S
  b6 : ∀ b, v6.ownBlock = some b → b < S
  rh : w.rowIs h 99 n fh
  rF : FM w F k D
  rp : w.rowIs p 22 n fp
  r6 : w.ownsRow B 4 1 v6 pl.length (pl.map Value.bool)
  rP : w.rowIs P 100 n (fun _ => .int .i64 0)
  rq : w.rowIs q 4 n (fun _ => .bool false)
  rr : RegT w B rb n
  n6 : ∀ b, v6.ownBlock = some b → b ≠ q
theorem Parts.bun {w : World} {B n : Nat} {pl : List Bool} {h F p P q rb : Nat} {v6 : Value} (H : Parts w B n pl h F p P q rb v6) : Bun w B w.heap.size n pl h F p P q rb v6 (fun _ => .slice none 0 0) (fun _ => .slice none 0 0) 0 (.map []) :=
  ⟨⟨H.bh, H.rh.lt⟩, ⟨H.bF, H.rF.lt⟩, ⟨H.bp, H.rp.lt⟩, ⟨H.bP, H.rP.lt⟩, ⟨H.bq, H.rq.lt⟩, fun b hb => own_lt H.r6 hb, H.rh, H.rF, H.rp, H.r6, H.rP, H.rq, H.rr, fun b hb => (H.n6 b hb).2.2.2.2⟩
section
variable {w w' : World} {B S n : Nat} {pl : List Bool} {h F p P q rb : Nat} {v6 : Value} {fh fp fh' fp' : Nat → Value} {k k' : Nat} {D D' : DU}
theorem Bun.below (H : Bun w B S n pl h F p P q rb v6 fh fp k D) (hb : Below w.heap.size w w') : Bun w' B S n pl h F p P q rb v6 fh fp k D :=
  ⟨H.bh, H.bF, H.bp, H.bP, H.bq, H.b6, row_below H.rh hb, H.rF.below hb, row_below H.rp hb, own_below H.r6 hb, row_below H.rP hb, row_below H.rq hb, H.rr.below hb, H.n6⟩
theorem Bun.at_c {c m : Nat} {f : Nat → Value} (H : Bun w B S n pl h F p P q rb v6 fh fp k D) (hc : w.rowIs c 98 m f) (hk : But c w w') : Bun w' B S n pl h F p P q rb v6 fh fp k D :=
  have t := onlyTag_row hc
  ⟨H.bh, H.bF, H.bp, H.bP, H.bq, H.b6, row_but H.rh hk t (by decide), fm_but H.rF hk hc, row_but H.rp hk t (by decide), own_but_tag H.r6 hk t (by decide), row_but H.rP hk t (by decide), row_but H.rq hk t (by decide), H.rr.but hk t (by decide) (by decide), H.n6⟩
theorem Bun.at_h (H : Bun w B S n pl h F p P q rb v6 fh fp k D) (hk : But h w w') (hh : w'.rowIs h 99 n fh') : Bun w' B S n pl h F p P q rb v6 fh' fp k D :=
  have t := onlyTag_row H.rh
  ⟨H.bh, H.bF, H.bp, H.bP, H.bq, H.b6, hh, fm_but H.rF hk H.rh, row_but H.rp hk t (by decide), own_but_tag H.r6 hk t (by decide), row_but H.rP hk t (by decide), row_but H.rq hk t (by decide), H.rr.but hk t (by decide) (by decide), H.n6⟩
theorem Bun.at_p (H : Bun w B S n pl h F p P q rb v6 fh fp k D) (hk : But p w w') (hp : w'.rowIs p 22 n fp') : Bun w' B S n pl h F p P q rb v6 fh fp' k D :=
  have t := onlyTag_row H.rp
  ⟨H.bh, H.bF, H.bp, H.bP, H.bq, H.b6, row_but H.rh hk t (by decide), fm_but H.rF hk H.rp, hp, own_but_tag H.r6 hk t (by decide), row_but H.rP hk t (by decide), row_but H.rq hk t (by decide), H.rr.but hk t (by decide) (by decide), H.n6⟩
theorem Bun.at_F (H : Bun w B S n pl h F p P q rb v6 fh fp k D) (hk : But F w w') (hF : FM w' F k' D') : Bun w' B S n pl h F p P q rb v6 fh fp k' D' :=
  have t := fun T => onlyTag_fm H.rF T
  ⟨H.bh, H.bF, H.bp, H.bP, H.bq, H.b6, row_but H.rh hk (t 0) (by decide), hF, row_but H.rp hk (t 0) (by decide), own_but_tag H.r6 hk (t 0) (by decide), row_but H.rP hk (t 0) (by decide), row_but H.rq hk (t 0) (by decide), H.rr.but hk (t 0) (by decide) (by decide), H.n6⟩
end
theorem ranges_tag {w : World} {b r m cnt : Nat} {D : DU} {left : Lit → Bool} (h : w.ranges Try.prog 73 (plainElem Try.prog 3) b r m D left cnt) (T : TypeId) : OnlyTag w r T := by
  intro t m' f' h'
  obtain ⟨es, clock, since, seen, c0, _, _, _, _, hr, _⟩ := h
  obtain ⟨c', h2, _⟩ := h'
  rw [hr] at h2
  cases h2
theorem Bun.at_r {w w' : World} {B S n : Nat} {pl : List Bool} {h F p P q rb : Nat} {v6 : Value} {fh fp : Nat → Value} {k r : Nat} {D : DU} (H : Bun w B S n pl h F p P q rb v6 fh fp k D) (t : ∀ T, OnlyTag w r T) (hF : F ≠ r) (hk : But r w w') : Bun w' B S n pl h F p P q rb v6 fh fp k D :=
  ⟨H.bh, H.bF, H.bp, H.bP, H.bq, H.b6, row_but H.rh hk (t 0) (by decide), H.rF.block (hk.2 F H.rF.lt hF), row_but H.rp hk (t 0) (by decide), own_but_tag H.r6 hk (t 0) (by decide), row_but H.rP hk (t 0) (by decide), row_but H.rq hk (t 0) (by decide), H.rr.but hk (t 0) (by decide) (by decide), H.n6⟩
theorem fm_size {w : World} {b n : Nat} {D : DU} (h : FM w b n D) : Maps.size D ≤ n := by
  obtain ⟨es, clock, hb, F, hs, rfl⟩ := h
  simp [Maps.size, length_sorted]
  exact hs
/-- a list of lists, cut from one row; all new: in [S, T) -/
structure ListAt (w : World) (S T R : Nat) (xss : List (List Int)) (f : Nat → Value) (v : Value) : Prop where
  lo : S ≤ R
  hi : R < T
  row : w.rowIs R 22 xss.length f
  own : Own3 w S xss.flatten v
  cut : CutAt 1 v xss xss.length f
  top : ∀ b, v.ownBlock = some b → b < T
theorem ListAt.but {w w' : World} {S T R X : Nat} {xss : List (List Int)} {f : Nat → Value} {v : Value} (h : ListAt w S T R xss f v) (hk : But X w w') (hX : X < S) : ListAt w' S T R xss f v :=
  ⟨h.lo, h.hi, row_but' h.row hk (by have := h.lo; omega), own_but_lt h.own hk hX, h.cut, h.top⟩
theorem ListAt.below {w w' : World} {S T R : Nat} {xss : List (List Int)} {f : Nat → Value} {v : Value} (h : ListAt w S T R xss f v) (hb : Below w.heap.size w w') : ListAt w' S T R xss f v :=
  ⟨h.lo, h.hi, row_below h.row hb, own_below h.own hb, h.cut, h.top⟩
theorem ListAt.lrow {w : World} {S T R : Nat} {xss : List (List Int)} {f : Nat → Value} {v : Value} (h : ListAt w S T R xss f v) : LRow w (some ⟨R, 0, none⟩) xss := lrow_cut h.row h.own h.cut
theorem gf_set1 (v v0 v1 v2 v3 v4 v5 v6 v7 v8 v9 : Value) (i : Nat) (hi : i < 10) : (if i = 1 then v else gf v0 v1 v2 v3 v4 v5 v6 v7 v8 v9 i) = gf v0 v v2 v3 v4 v5 v6 v7 v8 v9 i := by
  match i, hi with
  | 0, _ => rfl
  | 1, _ => rfl
  | 2, _ => rfl
  | 3, _ => rfl
  | 4, _ => rfl
  | 5, _ => rfl
  | 6, _ => rfl
  | 7, _ => rfl
  | 8, _ => rfl
  | 9, _ => rfl
theorem gf_set2 (v v0 v1 v2 v3 v4 v5 v6 v7 v8 v9 : Value) (i : Nat) (hi : i < 10) : (if i = 2 then v else gf v0 v1 v2 v3 v4 v5 v6 v7 v8 v9 i) = gf v0 v1 v v3 v4 v5 v6 v7 v8 v9 i := by
  match i, hi with
  | 0, _ => rfl
  | 1, _ => rfl
  | 2, _ => rfl
  | 3, _ => rfl
  | 4, _ => rfl
  | 5, _ => rfl
  | 6, _ => rfl
  | 7, _ => rfl
  | 8, _ => rfl
  | 9, _ => rfl
theorem gf_set3 (v v0 v1 v2 v3 v4 v5 v6 v7 v8 v9 : Value) (i : Nat) (hi : i < 10) : (if i = 3 then v else gf v0 v1 v2 v3 v4 v5 v6 v7 v8 v9 i) = gf v0 v1 v2 v v4 v5 v6 v7 v8 v9 i := by
  match i, hi with
  | 0, _ => rfl
  | 1, _ => rfl
  | 2, _ => rfl
  | 3, _ => rfl
  | 4, _ => rfl
  | 5, _ => rfl
  | 6, _ => rfl
  | 7, _ => rfl
  | 8, _ => rfl
  | 9, _ => rfl
theorem cloneLists_at (a : Option Addr) (cap : Nat) (xss : List (List Int)) (w : World) (hm : xss.length ≤ 1048576) (hT : xss.flatten.length ≤ 1048576) (hr : Hid (LRow w a xss)) :
    Calls Try.prog 68 #[.slice a xss.length cap] w fun e w' => (∃ R f v, e = .returned (.slice (some ⟨R, 0, none⟩) xss.length xss.length) ∧ Hid (ListAt w' w.heap.size w'.heap.size R xss f v)) ∧ Hid (Below w.heap.size w w') := by
  refine (cloneLists_cut a cap xss w hm hT hr).mono ?_
  rintro e w' ⟨⟨R, f, v, rfl, hb, h1, h2, h3⟩, hB⟩
  exact ⟨⟨R, f, v, rfl, ⟨hb, h1.out.lt, h1.out, h2.out, h3.out, fun b hb' => own_lt h2.out hb'⟩⟩, hB⟩
theorem cell_keep {w : World} {g i c j : Nat} {u v : Value} (h : w.cell? ⟨g, i, none⟩ = some v) (hne : g ≠ c) : (w.setCell ⟨c, j, none⟩ u).cell? ⟨g, i, none⟩ = some v :=
  (World.cell?_of_block (Go.Deep.blk_setCell_other _ _ _ _ (by show g ≠ c; exact hne))).trans h
/-- the pools' lists: each at a row of its own, all from S on -/
structure PoolAt (w : World) (S n : Nat) (pb : List (List Int)) (k : Nat) (fp : Nat → Value) : Prop where
  own : ∀ i, i < k → Own3 w S (pb.getD i []) (fp i)
  rest : ∀ i, k ≤ i → i < n → fp i = .slice none 0 0
  apart : ∀ i j b, i < k → j < k → i ≠ j → (fp i).ownBlock = some b → (fp j).ownBlock ≠ some b
theorem PoolAt.but {w w' : World} {S n X k : Nat} {pb : List (List Int)} {fp : Nat → Value} (h : PoolAt w S n pb k fp) (hk : But X w w') (hX : X < S) : PoolAt w' S n pb k fp :=
  ⟨fun i hi => own_but_lt (h.own i hi) hk hX, h.rest, h.apart⟩
theorem PoolAt.below {w w' : World} {S n k : Nat} {pb : List (List Int)} {fp : Nat → Value} (h : PoolAt w S n pb k fp) (hb : Below w.heap.size w w') : PoolAt w' S n pb k fp :=
  ⟨fun i hi => own_below (h.own i hi) hb, h.rest, h.apart⟩
theorem PoolAt.step {w : World} {S n k T : Nat} {pb : List (List Int)} {fp : Nat → Value} {v : Value} (h : PoolAt w S n pb k fp) (hv : w.ownsRow T 3 1 v (pb.getD k []).length ((pb.getD k []).map (Value.int .i64))) (hT : S ≤ T) (ht : ∀ i b, i < k → (fp i).ownBlock = some b → b < T) : PoolAt w S n pb (k + 1) (fun j => if j = k then v else fp j) := by
  refine ⟨fun i hi => ?_, fun i hi hn => ?_, fun i j b hi hj hij h1 h2 => ?_⟩
  · by_cases e : i = k
    · subst e; simp only [if_true]; exact own_mono hv hT
    · simp only [if_neg e]; exact h.own i (by omega)
  · rw [if_neg (by omega)]; exact h.rest i (by omega) hn
  · by_cases e : i = k
    · rw [if_pos e] at h1
      rw [if_neg (by omega)] at h2
      have := own_ge hv h1
      have := ht j b (by omega) h2
      omega
    · rw [if_neg e] at h1
      by_cases e' : j = k
      · rw [if_pos e'] at h2
        have := own_ge hv h2
        have := ht i b (by omega) h1
        omega
      · rw [if_neg e'] at h2
        exact h.apart i j b (by omega) (by omega) hij h1 h2
/-- what is left of the links when the first o are cut off -/
def Cur (u : Value) (L o : Nat) (v : Value) : Prop :=
  (u = .slice none 0 0 ∧ v = .slice none 0 0 ∧ L = 0) ∨ ∃ ab ca p, u = .slice (some ⟨ab, 0, none⟩) L ca ∧ v = .slice (some ⟨ab, p, none⟩) (L - o) (ca - o) ∧ Hid (p = o * 2 ∨ ca - o = 0) ∧ L ≤ ca
theorem cur_start {w : World} {B : Nat} {zs : List (Int × Int)} {v : Value} (h : Own2 w B zs v) : Cur v zs.length 0 v := by
  obtain ⟨hl, ⟨hv, h0⟩ | ⟨g, cap, cur, hv, hB, hh, h1, _⟩⟩ := h
  · exact .inl ⟨hv, hv, h0⟩
  · exact .inr ⟨g, cap, 0, hv, by rw [hv]; rfl, .inl rfl, h1⟩
theorem flat_nil {α : Type} {xss : List (List α)} {k : Nat} (h : xss.flatten.length = 0) (hk : k < xss.length) : xss.getD k [] = [] := by
  have h3 := take_flat_le xss (k + 1)
  rw [take_flat (xs := xss.getD k []) (by rw [List.drop_eq_getElem_cons hk, List.getD_eq_getElem?_getD, List.getElem?_eq_getElem hk]; rfl), List.length_append, h] at h3
  exact List.length_eq_zero_iff.1 (by omega)
/-- the clone in memory: all that it leads to, and where it lies -/
structure CloneAt (w : World) (B c : Nat) (n : Nat) (pss : List (List (Int × Int))) (hb co cb pb : List (List Int)) (D : DU) (pl : List Bool) (h F p P q rb : Nat) (v6 u7 : Value) (fh fp : Nat → Value) (k : Nat) (R1 R2 R3 : Nat) (f1 f2 f3 : Nat → Value) (v1 v2 v3 : Value) (S0 S1 S2 S3 S4 : Nat) : Prop where
  bc : B ≤ c ∧ c < S0
  s01 : S0 ≤ S1
  s12 : S1 ≤ S2
  s23 : S2 ≤ S3
  s34 : S3 ≤ S4
  rc : w.rowIs c 98 10 (gf (.slice (some ⟨h, 0, none⟩) n n) (.slice (some ⟨R1, 0, none⟩) hb.length hb.length) (.slice (some ⟨R2, 0, none⟩) co.length co.length) (.slice (some ⟨R3, 0, none⟩) cb.length cb.length) (.map (some F)) (.slice (some ⟨p, 0, none⟩) n n) v6 (.slice (some ⟨P, 0, none⟩) n n) (.slice (some ⟨q, 0, none⟩) n n) (.pointer (some ⟨rb, 0, none⟩)))
  bun : Bun w B S0 n pl h F p P q rb v6 fh fp k D
  links : Own2 w S0 pss.flatten u7
  top7 : ∀ b, u7.ownBlock = some b → b < S1
  cut : CutAt 2 u7 pss n fh
  l1 : ListAt w S1 S2 R1 hb f1 v1
  l2 : ListAt w S2 S3 R2 co f2 v2
  l3 : ListAt w S3 S4 R3 cb f3 v3
  pool : PoolAt w S4 n pb pb.length fp
def CloneOf (w : World) (B c : Nat) (pss : List (List (Int × Int))) (hb co cb pb : List (List Int)) (D : DU) (pl : List Bool) : Prop :=
  ∃ h F p P q rb v6 u7 fh fp k R1 R2 R3 f1 f2 f3 v1 v2 v3 S0 S1 S2 S3 S4, CloneAt w B c pss.length pss hb co cb pb D pl h F p P q rb v6 u7 fh fp k R1 R2 R3 f1 f2 f3 v1 v2 v3 S0 S1 S2 S3 S4
end Go.Proofs.Qxb6605294a
