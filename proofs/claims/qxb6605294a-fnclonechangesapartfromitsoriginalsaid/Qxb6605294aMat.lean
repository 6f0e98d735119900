import Derived.Test.Qxb6605294aBun
import Derived.ArgAppend
import Derived.Deep.RegionLawGrows
set_option maxRecDepth 100000
namespace Go.Proofs.Qxb6605294a
open Go.ChangeShapes Go.WideShapes Go.ChangeAt Go.RowKit
set_option linter.unusedVariables false

/-- ^x -/
def flp (x : Int) : Int := bits BinOp.xor IntKind.i64 (if IntKind.i64.signed = true then -1 else 9223372036854775807) x
theorem flp_wf (x : Int) : (Lit.int .i64 (flp x)).wf = true := wf_bits _ _ _ _
/-- all older blocks but those of X are as they were -/
def Tch (X : Nat → Prop) (w w' : World) : Prop := w.heap.size ≤ w'.heap.size ∧ ∀ b, b < w.heap.size → ¬ X b → w'.heap[b]? = w.heap[b]?
theorem Tch.refl (X : Nat → Prop) (w : World) : Tch X w w := ⟨Nat.le_refl _, fun _ _ _ => rfl⟩
theorem Tch.set {X : Nat → Prop} {w w' : World} {b i : Nat} {v : Value} (h : Tch X w w') (hb : X b) : Tch X w (w'.setCell ⟨b, i, none⟩ v) :=
  ⟨by simpa using h.1, fun c hc hx => (Go.Deep.blk_setCell_other _ _ _ _ (by show c ≠ b; intro e; subst e; exact hx hb)).trans (h.2 c hc hx)⟩
theorem Tch.trans {X : Nat → Prop} {w w' w'' : World} (h : Tch X w w') (h' : Tch X w' w'') : Tch X w w'' :=
  ⟨Nat.le_trans h.1 h'.1, fun b hb hx => (h'.2 b (Nat.lt_of_lt_of_le hb h.1) hx).trans (h.2 b hb hx)⟩
theorem Tch.mono {X Y : Nat → Prop} {w w' : World} (h : Tch X w w') (hxy : ∀ b, b < w.heap.size → X b → Y b) : Tch Y w w' := ⟨h.1, fun b hb hy => h.2 b hb (fun hx => hy (hxy b hb hx))⟩
theorem Tch.of_below {X : Nat → Prop} {w w' : World} (h : Below w.heap.size w w') : Tch X w w' := ⟨h.size, fun b hb _ => h.block b hb⟩
theorem Tch.drew {X : Nat → Prop} {w w' : World} (h : Tch X w w') : Tch X w w'.drew := h
theorem Tch.grown {X : Nat → Prop} {w w' w'' : World} {row : Option Nat} (h : Tch X w w') (hg : w'.grownBy w'' row) (hr : ∀ k, row = some k → X k ∨ w.heap.size ≤ k) : Tch X w w'' :=
  ⟨Nat.le_trans h.1 hg.size, fun b hb hx => (hg.block b (Nat.lt_of_lt_of_le hb h.1) (fun e => by rcases hr b e.symm with h | h; exact hx h; omega)).trans (h.2 b hb hx)⟩
theorem Tch.row {X : Nat → Prop} {w w' : World} {b n : Nat} {t : TypeId} {f : Nat → Value} (h : Tch X w w') (hr : w.rowIs b t n f) (hx : ¬ X b) : w'.rowIs b t n f := hr.of_block (h.2 b hr.lt hx)
theorem Tch.cell {X : Nat → Prop} {w w' : World} {p : Addr} {v : Value} (h : Tch X w w') (hc : w.cell? p = some v) (hx : ¬ X p.block) : w'.cell? p = some v :=
  (World.cell?_of_block (h.2 p.block (cell_lt' hc) hx)).trans hc

/-- lists of ints that may be written: list i has L i numbers from (bk i, of i) on; no cell serves two of them -/
structure Mat (w : World) (R m : Nat) (f : Nat → Value) (L bk of sz : Nat → Nat) (val : Nat → Nat → Int) : Prop where
  row : w.rowIs R 22 m f
  sl : ∀ i, i < m → ∃ a c, f i = .slice a (L i) c ∧ L i ≤ c ∧ (0 < L i → a = some ⟨bk i, of i, none⟩) ∧ (a = none → L i = 0 ∧ c = 0)
  cel : ∀ i j, i < m → j < L i → w.cell? ⟨bk i, of i + j, none⟩ = some (.int .i64 (val i j))
  thaw : ∀ i, i < m → 0 < L i → ∃ g, w.rowIs (bk i) 3 (sz i) g
  inj : ∀ i j i' j', i < m → i' < m → j < L i → j' < L i' → bk i = bk i' → of i + j = of i' + j' → i = i' ∧ j = j'
  off : ∀ i, i < m → 0 < L i → bk i ≠ R
section
variable {w w' : World} {R m : Nat} {f : Nat → Value} {L bk of sz : Nat → Nat} {val val' : Nat → Nat → Int}
theorem Mat.congr (H : Mat w R m f L bk of sz val) (h : ∀ i j, i < m → j < L i → val i j = val' i j) : Mat w R m f L bk of sz val' :=
  ⟨H.row, H.sl, fun i j hi hj => by rw [← h i j hi hj]; exact H.cel i j hi hj, H.thaw, H.inj, H.off⟩
theorem Mat.tch {X : Nat → Prop} (H : Mat w R m f L bk of sz val) (h : Tch X w w') (hR : ¬ X R) (hb : ∀ i, i < m → 0 < L i → ¬ X (bk i)) : Mat w' R m f L bk of sz val :=
  ⟨h.row H.row hR, H.sl, fun i j hi hj => h.cell (H.cel i j hi hj) (hb i hi (by omega)), fun i hi h0 => by
    obtain ⟨g, hr⟩ := H.thaw i hi h0
    exact ⟨g, h.row hr (hb i hi h0)⟩, H.inj, H.off⟩
def updv (val : Nat → Nat → Int) (i j : Nat) (x : Int) : Nat → Nat → Int := fun a b => if a = i ∧ b = j then x else val a b
theorem Mat.set (H : Mat w R m f L bk of sz val) {i j : Nat} (hi : i < m) (hj : j < L i) (x : Int) : Mat (w.setCell ⟨bk i, of i + j, none⟩ (.int .i64 x)) R m f L bk of sz (updv val i j x) := by
  have hoff := H.off i hi (by omega)
  refine ⟨H.row.of_block (Go.Deep.blk_setCell_other _ _ _ _ (by show R ≠ bk i; omega)), H.sl, fun i' j' hi' hj' => ?_, fun i' hi' h0 => ?_, H.inj, H.off⟩
  · have hc := H.cel i' j' hi' hj'
    by_cases e : bk i' = bk i ∧ of i' + j' = of i + j
    · obtain ⟨rfl, rfl⟩ := H.inj i' j' i j hi' hi hj' hj e.1 e.2
      unfold updv
      rw [if_pos ⟨rfl, rfl⟩]
      exact World.cell?_setCell_same _ _ _ hc
    · unfold updv
      rw [if_neg (fun h => e (by rw [h.1, h.2]; exact ⟨rfl, rfl⟩))]
      rw [World.cell?_setCell_other]
      · exact hc
      · intro h
        simp only [Addr.mk.injEq, and_true] at h
        exact e ⟨h.1.symm, h.2.symm⟩
  · obtain ⟨g, hr⟩ := H.thaw i' hi' h0
    by_cases e : bk i' = bk i
    · rw [e] at hr ⊢
      exact ⟨_, hr.set (of i + j) _⟩
    · exact ⟨g, hr.of_block (Go.Deep.blk_setCell_other _ _ _ _ (by show bk i' ≠ bk i; exact e))⟩
end
/-- flipped up to list k, number j -/
def fv (val : Nat → Nat → Int) (k j : Nat) : Nat → Nat → Int := fun a b => if a < k ∨ (a = k ∧ b < j) then flp (val a b) else val a b
theorem fv_at (val : Nat → Nat → Int) (k j : Nat) : fv val k j k j = val k j := by unfold fv; rw [if_neg (by omega)]
theorem fv_step (val : Nat → Nat → Int) (k j : Nat) : updv (fv val k j) k j (flp (val k j)) = fv val k (j + 1) := by
  funext a b
  unfold updv fv
  by_cases e : a = k ∧ b = j
  · obtain ⟨rfl, rfl⟩ := e
    rw [if_pos ⟨rfl, rfl⟩, if_pos (.inr ⟨rfl, by omega⟩)]
  · rw [if_neg e]
    by_cases h : a < k ∨ (a = k ∧ b < j)
    · rw [if_pos h, if_pos (by rcases h with h | h; exact .inl h; exact .inr ⟨h.1, by omega⟩)]
    · rw [if_neg h, if_neg (by
        rintro (h' | ⟨h1, h2⟩)
        · exact h (.inl h')
        · exact h (.inr ⟨h1, by omega⟩))]
theorem fv_next {m : Nat} {L : Nat → Nat} (val : Nat → Nat → Int) (k : Nat) : ∀ i j, i < m → j < L i → fv val k (L k) i j = fv val (k + 1) 0 i j := by
  intro i j hi hj
  unfold fv
  by_cases h : i < k + 1
  · rw [if_pos (show i < k + 1 ∨ (i = k + 1 ∧ j < 0) from .inl h), if_pos (by
      by_cases e : i = k
      · subst e; exact .inr ⟨rfl, hj⟩
      · exact .inl (by omega))]
  · rw [if_neg (show ¬ (i < k + 1 ∨ (i = k + 1 ∧ j < 0)) by omega), if_neg (by omega)]

set_option maxHeartbeats 2000000 in
theorem flip_any (B R m : Nat) (f : Nat → Value) (L bk of sz : Nat → Nat) (val : Nat → Nat → Int) (cap : Nat) (w : World) (hm : m ≤ 1048576) (hL : Hid (∀ i, L i ≤ 1048576)) (hB : Hid (∀ i, i < m → 0 < L i → B ≤ bk i)) (HM : Hid (Mat w R m f L bk of sz val)) :
    Calls Try.prog 45 #[.slice (some ⟨R, 0, none⟩) m cap] w fun e w' => e = .returned (.tuple #[]) ∧ Hid (Mat w' R m f L bk of sz (fun i j => flp (val i j))) ∧ Hid (Tch (fun b => ∃ i, i < m ∧ 0 < L i ∧ b = bk i) w w') ∧ Hid (Below B w w') := by
  go_enter Try.func45, Try.ntmps45
  go_wp2_with fail
  go_loopw [2] (fun i wr => ∃ k : Nat, k ≤ m ∧ i = .int .i64 k ∧ Hid (Mat wr R m f L bk of sz (fv val k 0)) ∧ Hid (Tch (fun b => ∃ i, i < m ∧ 0 < L i ∧ b = bk i) w wr) ∧ Hid (Below B w wr)) (fun i _ => m - (intOf i).toNat)
  case atStart => exact ⟨0, Nat.zero_le _, rfl, hid (HM.out.congr fun i j _ _ => by unfold fv; rw [if_neg (by omega)]), Tch.refl _ _, Below.refl _ _⟩
  case round =>
    obtain ⟨k, hk, rfl, HR, HT, HB⟩ := hrel
    by_cases hlt : k < m
    · obtain ⟨a, c, e1, l1, ha, hn⟩ := HR.out.sl k hlt
      have HA := hid ha
      clear ha hn
      go_wp2_with fail
      go_loopw [3] (fun i wr => ∃ jj : Nat, jj ≤ L k ∧ i = .int .i64 jj ∧ Hid (Mat wr R m f L bk of sz (fv val k jj)) ∧ Hid (Tch (fun b => ∃ i, i < m ∧ 0 < L i ∧ b = bk i) w wr) ∧ Hid (Below B w wr)) (fun i _ => L k - (intOf i).toNat)
      case atStart => exact ⟨0, Nat.zero_le _, rfl, HR, HT, HB⟩
      case round =>
        clear HR HT HB
        obtain ⟨jj, hj, rfl, HJ, HT, HB⟩ := hrel
        have hLk := hL.out k
        have c1 := HJ.out.row.cell (i := k) hlt
        rw [e1] at c1
        by_cases hjl : jj < L k
        · obtain rfl := HA.out (by omega)
          have d1 := HJ.out.cel k jj hlt hjl
          rw [fv_at] at d1
          obtain ⟨g, hg⟩ := HJ.out.thaw k hlt (by omega)
          have z1 := hg.frozen (of k + jj)
          have hoff := HJ.out.off k hlt (by omega)
          have HJ2 : Hid (Mat (wr.setCell ⟨bk k, of k + jj, none⟩ (.int .i64 (flp (val k jj)))) R m f L bk of sz (fv val k (jj + 1))) := by
            have := HJ.out.set hlt hjl (flp (val k jj))
            rw [fv_step] at this
            exact this
          have HT2 : Hid (Tch (fun b => ∃ i, i < m ∧ 0 < L i ∧ b = bk i) w (wr.setCell ⟨bk k, of k + jj, none⟩ (.int .i64 (flp (val k jj))))) := HT.out.set ⟨k, hlt, by omega, rfl⟩
          have HB2 : Hid (Below B w (wr.setCell ⟨bk k, of k + jj, none⟩ (.int .i64 (flp (val k jj))))) := HB.out.setCell (hB.out k hlt (by omega)) _
          clear HJ HT HB hg
          unfold flp at HJ2 HT2 HB2
          go_wp2_with fail
          go_region
          all_goals
            go_wp2_with fail
            exact ⟨⟨jj + 1, hjl, by simp, hid (HJ2.out.tch (X := fun _ => False) (Tch.refl _ _).drew (fun h => h) (fun _ _ _ h => h)), HT2.out.drew, HB2.out.drew⟩, by simp [intOf]; omega⟩
        · have hje := hid (show jj = L k by omega)
          have HJ2 : Hid (Mat wr R m f L bk of sz (fv val (k + 1) 0)) := by
            have := HJ.out
            rw [hje.out] at this
            exact this.congr (fv_next val k)
          clear HJ
          go_wp2_with fail
          exact ⟨⟨k + 1, hlt, by simp, HJ2, HT, HB⟩, by simp [intOf]; omega⟩
    · have hke := hid (show k = m by omega)
      have HE : Hid (Mat wr R m f L bk of sz (fun i j => flp (val i j))) := HR.out.congr fun i j hi hj => by unfold fv; rw [if_pos (.inl (by have := hke.out; omega))]
      clear HR
      go_wp2_with fail
      exact ⟨rfl, .tuple #[], by simp [results, Try.results45, go_sem], rfl, HE, HT, HB⟩
end Go.Proofs.Qxb6605294a
