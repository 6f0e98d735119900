import Derived.Test.Qxb6605195aTree3
import Derived.Test.Qxb6605195aFresh
namespace Go.Proofs.Qxb6605195a
open Go.ChangeShapes Go.WideShapes Go.ChangeAt Go.RowKit Plain
set_option linter.unusedVariables false
set_option maxRecDepth 100000

theorem Try.info39 : (Try.prog.info? 39).map (fun i => (i.zero, i.size, i.bytes)) = some (some (.pointer none), 1, 8) := by kernel_rfl
theorem neqNil71 (a : Option Addr) (n c : Nat) (w : World) : (binOp .neq 71 (.slice a n c) (.slice none 0 0)).run Try.prog w = .ok (.bool (!a.isNone)) w := run_neq_slice_nil_any w 71 39 a n c 0 0 Try.underlying71

theorem cloneN_h (a : Option Addr) (cap : Nat) (xs : List (Int × Int)) (w : World) (hm : xs.length ≤ 1048576) (hr : Hid (Got w a xs cap)) :
    Calls Try.prog 9 #[.slice a xs.length cap] w fun e w' => (∃ a' c', e = .returned (.slice a' xs.length c') ∧ Hid (Got w' a' xs c') ∧ Hid (∀ x, a' = some x → w.heap.size ≤ x.block)) ∧ Hid (Below w.heap.size w w') := by
  refine (cloneN_any a cap xs w hm hr.out.1 hr.out.2).mono ?_
  rintro e w' ⟨⟨a', c', rfl, hp, hn, hx⟩, hb⟩
  exact ⟨⟨a', c', rfl, ⟨hp, hn⟩, hx⟩, hb⟩

theorem node_stays {s : Nat} {w' : World} {n : Nat} {op mn mx : Int} {set : List (Int × Int)} {sa : Option Addr} {sc : Nat} {subs : List Tr} {ua : Option Addr} {uc : Nat} (ps : Nat → Option Addr) (hs : s ≤ n)
    (h0 : w'.cell? ⟨n, 0, none⟩ = some (.int .u8 op)) (h1 : w'.cell? ⟨n, 1, none⟩ = some (.slice sa set.length sc)) (g : Got w' sa set sc) (gx : ∀ x, sa = some x → s ≤ x.block)
    (h2 : w'.cell? ⟨n, 2, none⟩ = some (.slice ua subs.length uc)) (hn : ua = none → subs = [] ∧ uc = 0)
    (h3 : w'.cell? ⟨n, 3, none⟩ = some (.int .i64 mn)) (h4 : w'.cell? ⟨n, 4, none⟩ = some (.int .i64 mx))
    (b0 : 0 ≤ op ∧ op ≤ 255) (b1 : set.length ≤ 9223372036854775807) (b2 : subs.length ≤ 9223372036854775807) (b3 : -9223372036854775808 ≤ mn ∧ mn ≤ 9223372036854775807) (b4 : -9223372036854775808 ≤ mx ∧ mx ≤ 9223372036854775807)
    (hp : 0 < subs.length → ∃ ub uo, ua = some ⟨ub, uo, none⟩ ∧ s ≤ ub ∧ ∀ i, i < subs.length → w'.cell? ⟨ub, uo + i, none⟩ = some (.pointer (ps i)))
    (hk : ∀ i, i < subs.length → Stays s w' (fun w'' => TreeAt w'' (ps i) (kid subs i))) : Stays s w' (fun w'' => TreeAt w'' (some ⟨n, 0, none⟩) (.node op set subs mn mx)) := by
  intro w'' hz hc
  have hl := cell_lt' h0
  refine .node n 0 op mn mx set sa sc subs ua uc ps ?_ ?_ ⟨pairRow_stays g.1 gx w'' hz hc, g.2⟩ ?_ hn ?_ ?_ b0 b1 b2 b3 b4 ?_ (fun i hi => hk i hi w'' hz hc)
  · rw [hc ⟨n, 0, none⟩ hs hl]; exact h0
  · rw [hc ⟨n, 0 + 1, none⟩ hs hl]; exact h1
  · rw [hc ⟨n, 0 + 2, none⟩ hs hl]; exact h2
  · rw [hc ⟨n, 0 + 3, none⟩ hs hl]; exact h3
  · rw [hc ⟨n, 0 + 4, none⟩ hs hl]; exact h4
  · intro h
    obtain ⟨ub, uo, e, hs', hcell⟩ := hp h
    exact ⟨ub, uo, e, fun i hi => by rw [hc ⟨ub, uo + i, none⟩ hs' (cell_lt' (hcell i hi))]; exact hcell i hi⟩

def Kids (R : Nat) (wr : World) (subs : List Tr) (k : Nat) (f : Nat → Value) : Prop := ∀ i, i < k → ∃ p, f i = .pointer p ∧ Stays (R + 1) wr (fun w'' => TreeAt w'' p (kid subs i))
theorem kids_step {R : Nat} {wr w1 : World} {subs : List Tr} {k : Nat} {f : Nat → Value} {p : Option Addr} (h : Kids R wr subs k f) (hb : Below wr.heap.size wr w1) (hR : R < wr.heap.size) (hs : Stays wr.heap.size w1 (fun w'' => TreeAt w'' p (kid subs k))) :
    Kids R (w1.setCell ⟨R, k, none⟩ (.pointer p)) subs (k + 1) (fun j => if j = k then .pointer p else f j) := by
  have hset : ∀ {P : World → Prop}, Stays (R + 1) w1 P → Stays (R + 1) (w1.setCell ⟨R, k, none⟩ (.pointer p)) P := by
    intro P hP
    refine hP.later (by simp [World.setCell]) fun q h1 h2 => ?_
    exact World.cell?_setCell_other _ _ _ _ (by intro h; subst h; simp at h1; omega)
  intro i hi
  by_cases e : i = k
  · subst e
    exact ⟨p, by simp, hset (hs.mono hR)⟩
  · obtain ⟨q, hq, hst⟩ := h i (by omega)
    exact ⟨q, by simp [e, hq], hset (hst.later hb.size fun x h1 h2 => hb.cell h2)⟩

set_option maxHeartbeats 2000000 in
theorem cloneTree_any {w0 : World} {a : Option Addr} {t : Tr} (h : TreeAt w0 a t) : ∀ w, Hid (Below w0.heap.size w0 w) → Hid (good true t) →
    Calls Try.prog 22 #[.pointer a] w fun e w' => (∃ a', e = .returned (.pointer a') ∧ Hid (Stays w.heap.size w' (fun w'' => TreeAt w'' a' t))) ∧ Hid (Below w.heap.size w w') := by
  induction h with
  | nil => intro w _ hg; exact absurd hg.out (by unfold good; exact id)
  | node b off op mn mx set sa sc subs ua uc ps h0 h1 g h2 hn h3 h4 b0 b1 b2 b3 b4 hp hs ih =>
    intro w HB hg
    have hg' := hg.out
    unfold good at hg'
    obtain ⟨_, hsl, hl, g5, g4, g4', gl⟩ := hg'
    have HG := hid (goodL_get gl)
    have HP := hid hp
    have HI := hid ih
    have HN := hid hn
    have k0 : w.cell? ⟨b, off, none⟩ = some (.int .u8 op) := by rw [HB.out.cell (cell_lt' h0)]; exact h0
    have k1 : w.cell? ⟨b, off + 1, none⟩ = some (.slice sa set.length sc) := by rw [HB.out.cell (cell_lt' h1)]; exact h1
    have k2 : w.cell? ⟨b, off + 2, none⟩ = some (.slice ua subs.length uc) := by rw [HB.out.cell (cell_lt' h2)]; exact h2
    have k3 : w.cell? ⟨b, off + 3, none⟩ = some (.int .i64 mn) := by rw [HB.out.cell (cell_lt' h3)]; exact h3
    have k4 : w.cell? ⟨b, off + 4, none⟩ = some (.int .i64 mx) := by rw [HB.out.cell (cell_lt' h4)]; exact h4
    have GS := hid (g.below HB.out)
    have lb := hid (cell_lt' k0)
    clear hp hs ih h0 h1 h2 h3 h4 gl g hn g4 g4' g5
    have hnq := neqNil71
    go_enter Try.func22, Try.ntmps22
    go_wp2_with fail
    go_region_held3 (fun w' => w'.cell? ⟨b, off, none⟩ = some (.int .u8 op) ∧ w'.cell? ⟨b, off + 1, none⟩ = some (.slice sa set.length sc) ∧ w'.cell? ⟨b, off + 3, none⟩ = some (.int .i64 mn) ∧ w'.cell? ⟨b, off + 4, none⟩ = some (.int .i64 mx)) (first | exact ⟨by assumption, by assumption, by assumption, by assumption⟩ | go_keep)
      (first
      | (go_at_call 9; refine (cloneN_h sa sc set _ (by omega) ?_).mono ?_; (exact GS); rintro e w1 ⟨⟨a1, c1, rfl, G1, X1⟩, B1⟩; (have q0 : w1.cell? ⟨b, off, none⟩ = some (.int .u8 op) := (B1.out.cell (p := ⟨b, off, none⟩) lb.out).trans k0); (have q1 : w1.cell? ⟨b, off + 1, none⟩ = some (.slice sa set.length sc) := (B1.out.cell (p := ⟨b, off + 1, none⟩) lb.out).trans k1); (have q3 : w1.cell? ⟨b, off + 3, none⟩ = some (.int .i64 mn) := (B1.out.cell (p := ⟨b, off + 3, none⟩) lb.out).trans k3); (have q4 : w1.cell? ⟨b, off + 4, none⟩ = some (.int .i64 mx) := (B1.out.cell (p := ⟨b, off + 4, none⟩) lb.out).trans k4); (have hnw := World.new_ne w1 ⟨b, off, none⟩ q0))
      | fail)
    have hB : Below w.heap.size w w1 := (Below.drew (Below.refl _ _)).trans B1.out
    obtain ⟨n, hn⟩ : ∃ n, n = w1.heap.size := ⟨_, rfl⟩
    obtain ⟨W, hW⟩ : ∃ W, W = w1.alloc (Obj.cells #[Value.int IntKind.u8 op, Value.slice a1 set.length c1, Value.slice none 0 0, Value.int IntKind.i64 mn, Value.int IntKind.i64 mx] 73) := ⟨_, rfl⟩
    have c0 : W.cell? ⟨n, 0, none⟩ = some (.int .u8 op) := by rw [hW, hn]; simp [go_sem]
    have c1' : W.cell? ⟨n, 1, none⟩ = some (.slice a1 set.length c1) := by rw [hW, hn]; simp [go_sem]
    have c2 : W.cell? ⟨n, 2, none⟩ = some (.slice none 0 0) := by rw [hW, hn]; simp [go_sem]
    have c3 : W.cell? ⟨n, 3, none⟩ = some (.int .i64 mn) := by rw [hW, hn]; simp [go_sem]
    have c4 : W.cell? ⟨n, 4, none⟩ = some (.int .i64 mx) := by rw [hW, hn]; simp [go_sem]
    have hnl : n + 1 = W.heap.size := by rw [hW, hn]; simp
    have fz : W.frozen? ⟨n, 2, none⟩ = false := by rw [hW, hn]; simp [go_sem]
    have hns : w.heap.size ≤ n := by rw [hn]; exact hB.size
    have BW : Hid (Below w.heap.size w W) := by rw [hW]; exact hB.alloc hB.size _
    have GN : Hid (∀ w', Below n W w' → Got w' a1 set c1) := by
      intro w' hb
      rw [hW, hn] at hb
      exact G1.out.below (((Below.refl _ _).alloc (Nat.le_refl _) _).trans hb)
    have GW : Hid (Got W a1 set c1) := by rw [hW]; exact G1.out.below ((Below.refl _ _).alloc (Nat.le_refl _) _)
    rw [← hW, ← hn]
    clear hW hn hB q0 q1 q3 q4 hnw G1
    have X1' := hid (show ∀ x, a1 = some x → w.heap.size ≤ x.block from X1.out)
    have z2 : W.cell? ⟨b, off + 2, none⟩ = some (.slice ua subs.length uc) := (BW.out.cell (p := ⟨b, off + 2, none⟩) lb.out).trans k2
    cases ua with
    | none =>
      obtain ⟨hsub, rfl⟩ := HN.out rfl
      have HST := hid (node_stays (fun _ => none) hns c0 c1' GW.out X1'.out (subs := subs) (ua := none) (uc := 0) (by rw [hsub]; exact c2) (fun _ => ⟨hsub, rfl⟩) c3 c4 b0 b1 b2 b3 b4 (fun h => by rw [hsub] at h; simp at h) (fun i hi => by rw [hsub] at hi; simp at hi))
      clear hsub
      go_wp2_with fail
      go_ret
      exact ⟨⟨_, rfl, HST⟩, BW⟩
    | some ux =>
      obtain ⟨i0, hi0, hz0, hz1, hz2⟩ := info_parts Try.info39
      go_wp2_with (at_make; refine wpList_make_full _ rfl _ _ 71 rfl W.heap.size 39 i0 (.pointer none) 1 Try.underlying71 hi0 hz0 hz1 .i64 .i64 (subs.length : Int) (subs.length : Int) subs.length rfl rfl rfl rfl (by rw [hz2]; omega) (by unfold maxLen; omega) (Nat.le_refl _) ?_; intro w2 hown hgrow)
      obtain ⟨f0, hrow⟩ := rowIs_of_own hown
      have HB1 : Hid (Below W.heap.size W w2) := (Below.refl _ _).grown hgrow (Nat.le_refl _) (by simp)
      have HR1 := hid hrow
      clear hown hgrow hrow
      go_loopw [5] (fun i wr => ∃ (k : Nat) (f : Nat → Value), k ≤ subs.length ∧ i = .int .i64 k ∧ Hid (wr.rowIs W.heap.size 39 (subs.length * 1) f) ∧ Hid (Kids W.heap.size wr subs k f) ∧ Hid (Below W.heap.size W wr)) (fun i _ => subs.length - (intOf i).toNat)
      case atStart => exact ⟨0, f0, Nat.zero_le _, rfl, HR1, fun i hi => by omega, HB1⟩
      case round =>
        obtain ⟨k, f, hk, rfl, HR, HF, HBW⟩ := hrel
        clear HR1 HB1
        have y2 : wr.cell? ⟨b, off + 2, none⟩ = some (.slice (some ux) subs.length uc) := (HBW.out.cell (p := ⟨b, off + 2, none⟩) (Nat.lt_of_lt_of_le lb.out BW.out.size)).trans z2
        have hwl : W.heap.size < wr.heap.size := HR.out.lt
        by_cases hlt : k < subs.length
        · obtain ⟨ub, uo, hux, hc⟩ := HP.out (by omega)
          injection hux with hux
          subst hux
          have C0 := hid (below_next HB.out (below_next BW.out HBW.out))
          have x0 : wr.cell? ⟨ub, uo + k, none⟩ = some (.pointer (ps k)) := by
            have := hc k hlt
            rw [C0.out.cell (p := ⟨ub, uo + k, none⟩) (cell_lt' this)]; exact this
          clear hc
          go_wp2_with fail
          refine (HI.out k hlt wr C0 (HG.out k hlt)).mono ?_
          rintro e w3 ⟨⟨pk, rfl, SK⟩, B3⟩
          have HR3 := hid (rowIs_below HR.out B3.out hwl)
          have d1 := HR3.out.cell (i := k) (by omega)
          have e1 := HR3.out.frozen k
          have HRN := hid (HR3.out.set k (.pointer pk))
          have HKN := hid (kids_step HF.out B3.out hwl SK.out)
          have HBN : Hid (Below W.heap.size W (w3.setCell ⟨W.heap.size, k, none⟩ (.pointer pk))) := (HBW.out.trans (B3.out.mono (Nat.le_of_lt hwl))).setCell (Nat.le_refl _) _
          go_wp2_with fail
          go_roundw
          case rel => exact ⟨k + 1, _, hlt, by go_num, HRN, HKN, HBN⟩
          case measure => simp [intOf]; omega
        · have hke : k = subs.length := by omega
          have y0 : wr.cell? ⟨n, 0, none⟩ = some (.int .u8 op) := (HBW.out.cell (p := ⟨n, 0, none⟩) (show n < W.heap.size by omega)).trans c0
          have y1 : wr.cell? ⟨n, 1, none⟩ = some (.slice a1 set.length c1) := (HBW.out.cell (p := ⟨n, 1, none⟩) (show n < W.heap.size by omega)).trans c1'
          have y2' : wr.cell? ⟨n, 2, none⟩ = some (.slice none 0 0) := (HBW.out.cell (p := ⟨n, 2, none⟩) (show n < W.heap.size by omega)).trans c2
          have y3 : wr.cell? ⟨n, 3, none⟩ = some (.int .i64 mn) := (HBW.out.cell (p := ⟨n, 3, none⟩) (show n < W.heap.size by omega)).trans c3
          have y4 : wr.cell? ⟨n, 4, none⟩ = some (.int .i64 mx) := (HBW.out.cell (p := ⟨n, 4, none⟩) (show n < W.heap.size by omega)).trans c4
          have fz' : wr.frozen? ⟨n, 2, none⟩ = false := by
            rw [← fz]
            unfold World.frozen?
            rw [HBW.out.block n (by omega)]
          obtain ⟨w9, hw9⟩ : ∃ w9, w9 = wr.setCell ⟨n, 2, none⟩ (.slice (some ⟨W.heap.size, 0, none⟩) subs.length subs.length) := ⟨_, rfl⟩
          have hoth : ∀ p : Addr, p ≠ ⟨n, 2, none⟩ → w9.cell? p = wr.cell? p := fun p hp => by rw [hw9]; exact World.cell?_setCell_other _ _ _ _ (fun h => hp h.symm)
          have hz9 : wr.heap.size ≤ w9.heap.size := by rw [hw9]; simp [World.setCell]
          have v2 : w9.cell? ⟨n, 2, none⟩ = some (.slice (some ⟨W.heap.size, 0, none⟩) subs.length subs.length) := by rw [hw9]; exact World.cell?_setCell_same _ _ _ y2'
          have HB9 : Hid (Below w.heap.size w w9) := by
            rw [hw9]
            exact (below_next BW.out HBW.out).setCell hns _
          have HBn : Below n W w9 := by
            rw [hw9]
            exact (HBW.out.mono (show n ≤ W.heap.size by omega)).setCell (Nat.le_refl _) _
          have HST := hid (node_stays (fun i => match f i with | .pointer p => p | _ => none) (w' := w9) hns ((hoth ⟨n, 0, none⟩ (by simp)).trans y0) ((hoth ⟨n, 1, none⟩ (by simp)).trans y1) (GN.out w9 HBn) X1'.out (subs := subs) v2 (fun h => by cases h) ((hoth ⟨n, 3, none⟩ (by simp)).trans y3) ((hoth ⟨n, 4, none⟩ (by simp)).trans y4) b0 b1 b2 b3 b4
            (fun h => ⟨W.heap.size, 0, rfl, by omega, fun i hi => by
              have hc := HR.out.cell (i := i) (by omega)
              obtain ⟨q, hq, _⟩ := HF.out i (by omega)
              rw [hoth ⟨W.heap.size, 0 + i, none⟩ (by intro h; injection h with h; omega), Nat.zero_add, hc, hq]⟩)
            (fun i hi => by
              obtain ⟨q, hq, hst⟩ := HF.out i (by omega)
              rw [hq]
              exact (hst.later hz9 fun p h1 h2 => hoth p (by rintro rfl; simp at h1; omega)).mono (by omega)))
          clear hoth hz9 v2 HBn
          go_wp2_with fail
          go_ret
          rw [← hw9]
          exact ⟨⟨_, rfl, HST⟩, HB9⟩
end Go.Proofs.Qxb6605195a
