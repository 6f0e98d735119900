import Derived.Test.Qxb6605195aBuild
namespace Go.Proofs.Qxb6605195a
open Go.ChangeShapes Go.WideShapes Go.ChangeAt Go.RowKit Plain
set_option linter.unusedVariables false
set_option maxRecDepth 100000

theorem Try.info50 : (Try.prog.info? 50).map (fun i => (i.zero, i.size, i.bytes)) = some (some (.pointer none), 1, 8) := by kernel_rfl
/-- P holds in every later world that keeps the cells of the blocks from s up to e -/
def StaysIn (s e : Nat) (w' : World) (P : World → Prop) : Prop := ∀ w'' : World, e ≤ w''.heap.size → (∀ p : Addr, s ≤ p.block → p.block < e → w''.cell? p = w'.cell? p) → P w''
theorem StaysIn.later {s e : Nat} {w' w1 : World} {P : World → Prop} (h : StaysIn s e w' P) (hk : ∀ p : Addr, s ≤ p.block → p.block < e → w1.cell? p = w'.cell? p) : StaysIn s e w1 P :=
  fun w'' hz hk' => h w'' hz fun p h1 h2 => (hk' p h1 h2).trans (hk p h1 h2)
theorem StaysIn.wide {s e s0 : Nat} {w' : World} {P : World → Prop} (h : StaysIn s e w' P) (hs : s0 ≤ s) (he : e ≤ w'.heap.size) : Stays s0 w' P :=
  fun w'' hz hk => h w'' (Nat.le_trans he hz) fun p h1 h2 => hk p (Nat.le_trans hs h1) (Nat.lt_of_lt_of_le h2 he)
def KidsB (s0 : Nat) (wr : World) (v : Value) (subs : List Tr) (qs : List (Option Addr)) : Prop :=
  ∀ i, i < qs.length → ∃ s e, s0 ≤ s ∧ e ≤ wr.heap.size ∧ (∀ r, v.ownBlock = some r → r < s ∨ e ≤ r) ∧ StaysIn s e wr (fun w'' => NodeAt w'' (qs.getD i none) (kid subs i))
theorem cell_alloc_old (w : World) (o : Obj) {p : Addr} (h : p.block < w.heap.size) : (w.alloc o).cell? p = w.cell? p :=
  ((Below.refl w.heap.size w).alloc (Nat.le_refl _) o).cell h
theorem kidsB_step {s0 : Nat} {wr w1 w3 : World} {v v' : Value} {subs : List Tr} {qs : List (Option Addr)} {p : Option Addr} {o : Obj} {et : TypeId} {n : Nat} {xs : List Value} {B : Nat}
    (h : KidsB s0 wr v subs qs) (hs0 : s0 ≤ wr.heap.size) (ho : wr.ownsRow B et 1 v n xs) (hb : Below wr.heap.size wr w1) (hs : Stays wr.heap.size w1 (fun w'' => NodeAt w'' p (kid subs qs.length)))
    (hg : (w1.alloc o).grownBy w3 v.ownBlock) (hl : v'.ownBlock = v.ownBlock ∨ v'.ownBlock = some (w1.alloc o).heap.size) : KidsB s0 w3 v' subs (qs ++ [p]) := by
  have hz := hb.size
  have hz2 : (w1.alloc o).heap.size = w1.heap.size + 1 := by simp
  have hz3 := hg.size
  rw [hz2] at hz3
  have hown : ∀ r, v.ownBlock = some r → r < wr.heap.size := fun r hr => (ho.lt r hr).2
  have hk : ∀ {s e : Nat}, e ≤ w1.heap.size → (∀ r, v.ownBlock = some r → r < s ∨ e ≤ r) → ∀ q : Addr, s ≤ q.block → q.block < e → w3.cell? q = w1.cell? q := by
    intro s e he hr q h1 h2
    rw [grown_cell hg (p := q) (by omega) (fun hv => by have := hr q.block hv; omega)]
    exact cell_alloc_old w1 o (by omega)
  intro i hi
  rw [List.length_append] at hi
  by_cases e : i < qs.length
  · obtain ⟨s, e', h1, h2, h3, h4⟩ := h i e
    refine ⟨s, e', h1, by omega, ?_, ?_⟩
    · intro r hr
      rcases hl with hl | hl
      · exact h3 r (by rw [← hl]; exact hr)
      · rw [hl] at hr; injection hr with hr; omega
    · have : (qs ++ [p]).getD i none = qs.getD i none := by simp [List.getD, List.getElem?_append_left e]
      rw [this]
      exact (h4.later fun q x1 x2 => hb.cell (by omega)).later (hk (by omega) h3)
  · have hik : i = qs.length := by simp at hi; omega
    subst hik
    have : (qs ++ [p]).getD qs.length none = p := by simp [List.getD]
    rw [this]
    have hr : ∀ r, v.ownBlock = some r → r < wr.heap.size ∨ w1.heap.size ≤ r := fun r h => .inl (hown r h)
    refine ⟨wr.heap.size, w1.heap.size, hs0, by omega, ?_, ?_⟩
    · intro r hr'
      rcases hl with hl | hl
      · exact .inl (hown r (by rw [← hl]; exact hr'))
      · rw [hl] at hr'; injection hr' with hr'; omega
    · exact StaysIn.later (w' := w1) hs (hk (Nat.le_refl _) hr)
theorem own_bel {w w' : World} {B : Nat} {e : TypeId} {size n : Nat} {v : Value} {xs : List Value} (h : w.ownsRow B e size v n xs) (hb : Below w.heap.size w w') : w'.ownsRow B e size v n xs := by
  obtain ⟨hl, h0 | ⟨g, cap, cur, rfl, h1, hh, h2⟩⟩ := h
  · exact ⟨hl, .inl h0⟩
  · exact ⟨hl, .inr ⟨g, cap, cur, rfl, h1, by rw [hb.block g (Array.getElem?_eq_some_iff.1 hh).1]; exact hh, h2⟩⟩
theorem ptrRow_own {w : World} {B : Nat} {v : Value} {n : Nat} {qs : List (Option Addr)} (h : w.ownsRow B 50 1 v n (qs.map Value.pointer)) :
    ∃ a c, v = .slice a n c ∧ (0 < n → ∃ g, a = some ⟨g, 0, none⟩ ∧ B ≤ g ∧ ∀ i, i < n → w.cell? ⟨g, 0 + i, none⟩ = some (.pointer (qs.getD i none))) := by
  obtain ⟨hl, ⟨rfl, rfl⟩ | ⟨g, cap, cur, rfl, hb, hh, h1, h2, h3, h4⟩⟩ := h
  · exact ⟨none, 0, rfl, fun h => absurd h (by omega)⟩
  · refine ⟨_, cap, rfl, fun _ => ⟨g, rfl, hb, fun i hi => ?_⟩⟩
    rw [List.length_map, Nat.mul_one] at hl
    simp only [World.cell?, hh, Nat.zero_add]
    have : cur.toList[i]? = (qs.map Value.pointer)[i]? := by
      rw [← h4, List.getElem?_take]; simp [hi]
    have h5 : (qs.map Value.pointer)[i]? = some (.pointer (qs.getD i none)) := by
      rw [List.getElem?_map, List.getD_eq_getElem?_getD, List.getElem?_eq_getElem (by omega)]; rfl
    rw [h5] at this
    simpa using this
theorem nodeB_stays {s : Nat} {w' : World} {n : Nat} {op mn mx : Int} {set : List (Int × Int)} {sb : Nat} {M : List (Int × Int)} {sg : Nat → Nat} {subs : List Tr} {ua : Option Addr} {uc : Nat} (ps : Nat → Option Addr) (hs : s ≤ n)
    (h0 : w'.cell? ⟨n, 0, none⟩ = some (.int .u8 op)) (h1 : w'.cell? ⟨n, 1, none⟩ = some (.pointer (some ⟨sb, 0, none⟩))) (hT : Stays s w' (fun w'' => SetAt w'' sb M sg)) (hF : Canon M ∧ Dom M ∧ M.length ≤ set.length ∧ (∀ c, InR M c ↔ InR set c) ∧ Bits sg (fun x => InR set (x : Int)))
    (h2 : w'.cell? ⟨n, 2, none⟩ = some (.slice ua subs.length uc)) (h3 : w'.cell? ⟨n, 3, none⟩ = some (.int .i64 mn)) (h4 : w'.cell? ⟨n, 4, none⟩ = some (.int .i64 mx))
    (b0 : 0 ≤ op ∧ op ≤ 255) (b2 : subs.length ≤ 9223372036854775807) (b3 : -9223372036854775808 ≤ mn ∧ mn ≤ 9223372036854775807) (b4 : -9223372036854775808 ≤ mx ∧ mx ≤ 9223372036854775807)
    (hp : 0 < subs.length → ∃ ub uo, ua = some ⟨ub, uo, none⟩ ∧ s ≤ ub ∧ ∀ i, i < subs.length → w'.cell? ⟨ub, uo + i, none⟩ = some (.pointer (ps i)))
    (hk : ∀ i, i < subs.length → Stays s w' (fun w'' => NodeAt w'' (ps i) (kid subs i))) : Stays s w' (fun w'' => NodeAt w'' (some ⟨n, 0, none⟩) (.node op set subs mn mx)) := by
  intro w'' hz hc
  have hl := cell_lt' h0
  refine .node n op mn mx set sb M sg subs ua uc ps ?_ ?_ ⟨hT w'' hz hc, hF⟩ ?_ ?_ ?_ b0 b2 b3 b4 ?_ (fun i hi => hk i hi w'' hz hc)
  · rw [hc ⟨n, 0, none⟩ hs hl]; exact h0
  · rw [hc ⟨n, 1, none⟩ hs hl]; exact h1
  · rw [hc ⟨n, 2, none⟩ hs hl]; exact h2
  · rw [hc ⟨n, 3, none⟩ hs hl]; exact h3
  · rw [hc ⟨n, 4, none⟩ hs hl]; exact h4
  · intro h
    obtain ⟨ub, uo, e, hs', hcell⟩ := hp h
    exact ⟨ub, uo, e, fun i hi => by rw [hc ⟨ub, uo + i, none⟩ hs' (cell_lt' (hcell i hi))]; exact hcell i hi⟩
theorem newSetN_h (a : Option Addr) (cap : Nat) (xs : List (Int × Int)) (w : World) (hm : xs.length ≤ 1048576) (hd : Hid (Dom xs)) (hr : Hid (Got w a xs cap)) :
    Calls Try.prog 10 #[.slice a xs.length cap] w fun e w' => (∃ b M g, e = .returned (.pointer (some ⟨b, 0, none⟩)) ∧ Hid (SetFor w' b M g xs) ∧ Hid (Stays w.heap.size w' (fun w'' => SetAt w'' b M g))) ∧ Hid (Below w.heap.size w w') := by
  have hp := hid hr.out.1
  have hn := hid (fun h => (hr.out.2 h).1)
  go_enter Try.func10, Try.ntmps10
  go_wp2_with fail
  refine (newSetN_any a cap xs w hm hd hp hn).mono ?_
  rintro e w' ⟨⟨b, M, g, rfl, h, h'⟩, hb⟩
  have H := hid h
  have H' := hid h'
  have HB := hid hb
  clear h h' hb
  go_wp2_with fail
  go_ret
  exact ⟨⟨b, M, g, rfl, H, H'⟩, HB⟩
theorem one_ptr (p : Option Addr) : ∀ u ∈ [Value.pointer p], u.oneCell' = true := by intro u hu; simp at hu; subst hu; rfl

set_option maxHeartbeats 2000000 in
theorem build_any {w0 : World} {a : Option Addr} {t : Tr} (h : TreeAt w0 a t) : ∀ w, Hid (Below w0.heap.size w0 w) → Hid (good true t) →
    Calls Try.prog 24 #[.pointer a] w fun e w' => (∃ a', e = .returned (.pointer a') ∧ Hid (Stays w.heap.size w' (fun w'' => NodeAt w'' a' t))) ∧ Hid (Below w.heap.size w w') := by
  induction h with
  | nil => intro w _ hg; exact absurd hg.out (by unfold good; exact id)
  | node b off op mn mx set sa sc subs ua uc ps h0 h1 g h2 hn h3 h4 b0 b1 b2 b3 b4 hp hs ih =>
    intro w HB hg
    have hg' := hg.out
    unfold good at hg'
    obtain ⟨hdom, hsl, hl, g5, g4, g4', gl⟩ := hg'
    have HD := hid hdom
    have HG := hid (goodL_get gl)
    have HP := hid hp
    have HI := hid ih
    have k0 : w.cell? ⟨b, off, none⟩ = some (.int .u8 op) := by rw [HB.out.cell (cell_lt' h0)]; exact h0
    have k1 : w.cell? ⟨b, off + 1, none⟩ = some (.slice sa set.length sc) := by rw [HB.out.cell (cell_lt' h1)]; exact h1
    have k2 : w.cell? ⟨b, off + 2, none⟩ = some (.slice ua subs.length uc) := by rw [HB.out.cell (cell_lt' h2)]; exact h2
    have k3 : w.cell? ⟨b, off + 3, none⟩ = some (.int .i64 mn) := by rw [HB.out.cell (cell_lt' h3)]; exact h3
    have k4 : w.cell? ⟨b, off + 4, none⟩ = some (.int .i64 mx) := by rw [HB.out.cell (cell_lt' h4)]; exact h4
    have GS := hid (g.below HB.out)
    have lb := hid (cell_lt' k0)
    clear hp hs ih h0 h1 h2 h3 h4 gl g hn g4 g4' g5 hdom
    obtain ⟨i0, hi0, hz0, hz1, hz2⟩ := info_parts Try.info50
    go_enter Try.func24, Try.ntmps24
    go_wp2_with fail
    go_loopw [3, 11] (fun v i wr => ∃ (qs : List (Option Addr)), qs.length ≤ subs.length ∧ i = .int .i64 qs.length ∧ Hid (wr.ownsRow w.heap.size 50 1 v qs.length (qs.map Value.pointer)) ∧ Hid (KidsB w.heap.size wr v subs qs) ∧ Hid (Below w.heap.size w wr)) (fun _ i _ => subs.length - (intOf i).toNat)
    case atStart => exact ⟨[], Nat.zero_le _, rfl, World.ownsRow_nil _ _ _ _, fun i hi => absurd hi (by simp), Below.refl _ _⟩
    case round =>
      obtain ⟨qs, hk, rfl, HO, HK, HBW⟩ := hrel
      by_cases hlt : qs.length < subs.length
      · obtain ⟨ub, uo, rfl, hc⟩ := HP.out (by omega)
        have C0 := hid (below_next HB.out HBW.out)
        have x0 : wr.cell? ⟨ub, uo + qs.length, none⟩ = some (.pointer (ps qs.length)) := by
          have := hc qs.length hlt
          rw [C0.out.cell (p := ⟨ub, uo + qs.length, none⟩) (cell_lt' this)]; exact this
        clear hc
        go_wp2_with fail
        refine (HI.out qs.length hlt wr C0 (HG.out qs.length hlt)).mono ?_
        rintro e w1 ⟨⟨pk, rfl, SK⟩, B1⟩
        have hwz := HBW.out.size
        have hz1' := B1.out.size
        have HO1 := hid (own_bel HO.out B1.out)
        go_wp2_with (at_builtin; refine wpList_append_own_at _ rfl (.tmp 15) (.tmp 18) 75 rfl w.heap.size 50 i0 (.pointer none) 1 8 Try.underlying75 hi0 hz0 hz1 hz2 rfl (by decide) _ _ _ rfl (HO1.out.alloc _) ⟨w1.heap.size, 0, none⟩ 1 1 [.pointer pk] rfl rfl (one_new_at _ _ _ _ rfl) (one_ptr _) (by unfold maxLen; omega) (by omega) (by simp; omega) ?_; intro v1 w3 hown1 hgrow1 hnil1 hloc1)
        refine ⟨⟨qs ++ [pk], by simp; omega, by simp, ?_, ?_, ?_⟩, by simp [intOf]; omega⟩
        · have : w3.ownsRow w.heap.size 50 1 v1 (qs ++ [pk]).length ((qs ++ [pk]).map Value.pointer) := by rw [List.map_append, List.length_append]; exact hown1
          exact this
        · exact kidsB_step HK.out hwz HO.out B1.out SK.out hgrow1 hloc1
        · have hA : Below w.heap.size w (w1.alloc (Obj.cells #[Value.pointer pk] 50)) := (below_next HBW.out B1.out).alloc (Nat.le_trans hwz hz1') _
          exact below_push hA (HO1.out.alloc _) hgrow1 (by simp; omega)
      · have hke := hid (show qs.length = subs.length by omega)
        obtain ⟨av, cv, ev, HRW⟩ := ptrRow_own HO.out
        subst ev
        have HRW' := hid HRW
        clear HRW
        have y0 : wr.cell? ⟨b, off, none⟩ = some (.int .u8 op) := (HBW.out.cell (p := ⟨b, off, none⟩) lb.out).trans k0
        have y1 : wr.cell? ⟨b, off + 1, none⟩ = some (.slice sa set.length sc) := (HBW.out.cell (p := ⟨b, off + 1, none⟩) lb.out).trans k1
        have y3 : wr.cell? ⟨b, off + 3, none⟩ = some (.int .i64 mn) := (HBW.out.cell (p := ⟨b, off + 3, none⟩) lb.out).trans k3
        have y4 : wr.cell? ⟨b, off + 4, none⟩ = some (.int .i64 mx) := (HBW.out.cell (p := ⟨b, off + 4, none⟩) lb.out).trans k4
        have GR := hid (GS.out.below HBW.out)
        have lr := hid (cell_lt' y0)
        clear k0 k1 k2 k3 k4
        go_wp2_with fail
        go_region_held3 (fun w' => w'.cell? ⟨b, off, none⟩ = some (.int .u8 op) ∧ w'.cell? ⟨b, off + 1, none⟩ = some (.slice sa set.length sc) ∧ w'.cell? ⟨b, off + 3, none⟩ = some (.int .i64 mn) ∧ w'.cell? ⟨b, off + 4, none⟩ = some (.int .i64 mx)) (first | exact ⟨by assumption, by assumption, by assumption, by assumption⟩ | go_keep)
          (first
          | (go_at_call 11; refine (toRune_h sa sc set _ (by omega) ?_).mono ?_; (exact GR); rintro e w4 ⟨⟨a4, c4, rfl, G4⟩, B4⟩; (have D4 := hid ((Below.drew (Below.refl _ _)).trans B4.out : Below wr.heap.size wr w4)); (have y0a : w4.cell? ⟨b, off, none⟩ = some (.int .u8 op) := (D4.out.cell (p := ⟨b, off, none⟩) lr.out).trans y0); (have y1a : w4.cell? ⟨b, off + 1, none⟩ = some (.slice sa set.length sc) := (D4.out.cell (p := ⟨b, off + 1, none⟩) lr.out).trans y1); (have y3a : w4.cell? ⟨b, off + 3, none⟩ = some (.int .i64 mn) := (D4.out.cell (p := ⟨b, off + 3, none⟩) lr.out).trans y3); (have y4a : w4.cell? ⟨b, off + 4, none⟩ = some (.int .i64 mx) := (D4.out.cell (p := ⟨b, off + 4, none⟩) lr.out).trans y4))
          | (go_at_call 10; refine (newSetN_h a4 c4 set w4 (by omega) HD G4).mono ?_; rintro e w5 ⟨⟨b5, M5, g5, rfl, S5, T5⟩, B5⟩; (have D5 := hid (below_next D4.out B5.out)); (have y0b : w5.cell? ⟨b, off, none⟩ = some (.int .u8 op) := (D5.out.cell (p := ⟨b, off, none⟩) lr.out).trans y0); (have y1b : w5.cell? ⟨b, off + 1, none⟩ = some (.slice sa set.length sc) := (D5.out.cell (p := ⟨b, off + 1, none⟩) lr.out).trans y1); (have y3b : w5.cell? ⟨b, off + 3, none⟩ = some (.int .i64 mn) := (D5.out.cell (p := ⟨b, off + 3, none⟩) lr.out).trans y3); (have y4b : w5.cell? ⟨b, off + 4, none⟩ = some (.int .i64 mx) := (D5.out.cell (p := ⟨b, off + 4, none⟩) lr.out).trans y4))
          | (go_at_call 38; refine (znode_any op (some ⟨b5, 0, none⟩) av qs.length cv mn mx w5).mono ?_; rintro e w6 ⟨⟨rfl, NC⟩, B6⟩; (have D6 := hid (below_next D5.out B6.out)); (have y0c : w6.cell? ⟨b, off, none⟩ = some (.int .u8 op) := (D6.out.cell (p := ⟨b, off, none⟩) lr.out).trans y0); (have y1c : w6.cell? ⟨b, off + 1, none⟩ = some (.slice sa set.length sc) := (D6.out.cell (p := ⟨b, off + 1, none⟩) lr.out).trans y1); (have y3c : w6.cell? ⟨b, off + 3, none⟩ = some (.int .i64 mn) := (D6.out.cell (p := ⟨b, off + 3, none⟩) lr.out).trans y3); (have y4c : w6.cell? ⟨b, off + 4, none⟩ = some (.int .i64 mx) := (D6.out.cell (p := ⟨b, off + 4, none⟩) lr.out).trans y4)))
        have hz : wr.heap.size ≤ w5.heap.size := D5.out.size
        have hz0 : w.heap.size ≤ wr.heap.size := HBW.out.size
        have HST : Hid (Stays w.heap.size w6 (fun w'' => NodeAt w'' (some ⟨w5.heap.size, 0, none⟩) (.node op set subs mn mx))) := by
          obtain ⟨n0, n1, n2, n3, n4⟩ := NC.out
          have hT : Stays w.heap.size w6 (fun w'' => SetAt w'' b5 M5 g5) := by
            have h4 := D4.out.size
            have hT5 := T5.out.mono (Nat.le_trans hz0 h4)
            exact hT5.later B6.out.size fun p x1 x2 => B6.out.cell x2
          exact nodeB_stays (fun i => qs.getD i none) (Nat.le_trans hz0 hz) n0 n1 hT S5.out.2 (by rw [← hke.out]; exact n2) n3 n4 b0 b2 b3 b4
            (fun h => by
              obtain ⟨gr, e1, e2, e3⟩ := HRW'.out (by rw [hke.out]; exact h)
              refine ⟨gr, 0, e1, e2, fun i hi => ?_⟩
              have hc := e3 i (by rw [hke.out]; exact hi)
              rw [D6.out.cell (p := ⟨gr, 0 + i, none⟩) (cell_lt' hc)]
              exact hc)
            (fun i hi => by
              obtain ⟨s, e, x1, x2, _, x4⟩ := HK.out i (by rw [hke.out]; exact hi)
              exact (x4.later fun p z1 z2 => D6.out.cell (Nat.lt_of_lt_of_le z2 x2)).wide x1 (Nat.le_trans x2 D6.out.size))
        have HB6 := hid (below_next HBW.out D6.out)
        go_wp2_with fail
        go_ret
        exact ⟨⟨_, rfl, HST⟩, HB6⟩
end Go.Proofs.Qxb6605195a
