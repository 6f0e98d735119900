import Derived.Test.Qxb6605294aClone
import Derived.Test.Qxb6605294aBytes2
set_option maxRecDepth 100000
namespace Go.Proofs.Qxb6605294a
open Go.ChangeShapes Go.WideShapes Go.ChangeAt Go.RowKit
set_option linter.unusedVariables false

set_option maxHeartbeats 2000000 in
theorem zzClone_any (g n fb fn : Nat) (D : DU) (a0 a1 a2 a3 a5 a6 : Option Addr) (c0 c1 c2 c3 c5 c6 : Nat) (pss : List (List (Int × Int))) (hb co cb pb : List (List Int)) (pl : List Bool) (w : World) (hn : n ≤ 1048576) (hpl : pl.length ≤ 1048576) (hfn : fn ≤ 1048576) (hl1 : hb.length ≤ 1048576) (hl2 : co.length ≤ 1048576) (hl3 : cb.length ≤ 1048576) (hl5 : pb.length ≤ n) (ht0 : pss.flatten.length ≤ 1048576) (ht1 : hb.flatten.length ≤ 1048576) (ht2 : co.flatten.length ≤ 1048576) (ht3 : cb.flatten.length ≤ 1048576) (ht5 : Hid (∀ i, (pb.getD i []).length ≤ 1048576)) (HNn : Hid (n = pss.length))
    (g0 : w.cell? ⟨g, 0, none⟩ = some (.slice a0 n c0)) (g1 : w.cell? ⟨g, 1, none⟩ = some (.slice a1 hb.length c1)) (g2 : w.cell? ⟨g, 2, none⟩ = some (.slice a2 co.length c2)) (g3 : w.cell? ⟨g, 3, none⟩ = some (.slice a3 cb.length c3)) (g4 : w.cell? ⟨g, 4, none⟩ = some (.map (some fb))) (g5 : w.cell? ⟨g, 5, none⟩ = some (.slice a5 pb.length c5)) (g6 : w.cell? ⟨g, 6, none⟩ = some (.slice a6 pl.length c6))
    (R0 : Hid (HRow w a0 pss)) (R1 : Hid (LRow w a1 hb)) (R2 : Hid (LRow w a2 co)) (R3 : Hid (LRow w a3 cb)) (HF : Hid (FM w fb fn D)) (R5 : Hid (LRow w a5 pb)) (R6 : Hid (Row Value.bool false w a6 pl)) (N6 : Hid (a6 = none → pl = [] ∧ c6 = 0)) :
    Calls Try.prog 35 #[.pointer (some ⟨g, 0, none⟩)] w fun e w' => (∃ c, e = .returned (.pointer (some ⟨c, 0, none⟩)) ∧ Hid (CloneOf w' w.heap.size c pss hb co cb pb D pl)) ∧ Hid (Below w.heap.size w w') := by
  go_enter Try.func35, Try.ntmps35
  go_wp2_with fail
  refine (clone_any g n fb fn D a0 a1 a2 a3 a5 a6 c0 c1 c2 c3 c5 c6 pss hb co cb pb pl w hn hpl hfn hl1 hl2 hl3 hl5 ht0 ht1 ht2 ht3 ht5 HNn g0 g1 g2 g3 g4 g5 g6 R0 R1 R2 R3 HF R5 R6 N6).mono ?_
  rintro e w1 ⟨⟨c, rfl, HC⟩, HB⟩
  go_wp2_with fail
  go_ret
  exact ⟨⟨c, rfl, HC⟩, HB⟩

/-- pooledBy, one list a party -/
def pad (n : Nat) (pb : List (List Int)) : List (List Int) := (List.range n).map fun i => pb.getD i []
theorem pad_len (n : Nat) (pb : List (List Int)) : (pad n pb).length = n := by simp [pad]
theorem pad_get {n : Nat} {pb : List (List Int)} (h : pb.length ≤ n) (i : Nat) : (pad n pb).getD i [] = pb.getD i [] := by
  unfold pad
  rw [List.getD_eq_getElem?_getD, List.getElem?_map]
  by_cases hi : i < n
  · rw [List.getElem?_range hi]; rfl
  · rw [List.getElem?_eq_none (by simp; omega), List.getD_eq_getElem?_getD, List.getElem?_eq_none (by omega)]; rfl
theorem inner_own {w : World} {B : Nat} {xs : List Int} {v : Value} (h : Own3 w B xs v) : InnerR w xs v := by
  obtain ⟨a, c, e, l, r, n, k⟩ := retRow_own (d := (0 : Int)) h
  injection e with e
  exact ⟨a, c, e, l, r.out, n.out⟩
theorem PoolAt.lrow {w : World} {S n p : Nat} {pb : List (List Int)} {fp : Nat → Value} (h : PoolAt w S n pb pb.length fp) (hl : pb.length ≤ n) (hp : w.rowIs p 22 n fp) : LRow w (some ⟨p, 0, none⟩) (pad n pb) := by
  refine fun _ => ⟨p, 0, fp, rfl, hp.lt, fun i hi => ?_⟩
  rw [pad_len] at hi
  rw [Nat.zero_add]
  refine ⟨hp.cell hi, ?_⟩
  rw [pad_get hl]
  by_cases hk : i < pb.length
  · exact inner_own (h.own i hk)
  · rw [h.rest i (by omega) hi, List.getD_eq_getElem?_getD, List.getElem?_eq_none (by omega)]
    exact ⟨none, 0, rfl, Nat.le_refl _, row_nil _ _, fun _ => ⟨rfl, rfl⟩⟩
section
variable {w : World} {B c n : Nat} {pss : List (List (Int × Int))} {hb co cb pb : List (List Int)} {D : DU} {pl : List Bool} {h F p P q rb : Nat} {v6 u7 : Value} {fh fp : Nat → Value} {k : Nat} {R1 R2 R3 : Nat} {f1 f2 f3 : Nat → Value} {v1 v2 v3 : Value} {S0 S1 S2 S3 S4 : Nat}
theorem CloneAt.gat (H : CloneAt w B c n pss hb co cb pb D pl h F p P q rb v6 u7 fh fp k R1 R2 R3 f1 f2 f3 v1 v2 v3 S0 S1 S2 S3 S4) (hn : n = pss.length) (hl : pb.length ≤ n) : GAt w c pss hb co cb (pad n pb) D pl := by
  subst hn
  obtain ⟨a6, c6, e6, l6, r6, n6, k6⟩ := retRow_own (d := false) H.bun.r6
  injection e6 with e6
  subst e6
  refine ⟨some ⟨h, 0, none⟩, pss.length, some ⟨R1, 0, none⟩, hb.length, some ⟨R2, 0, none⟩, co.length, some ⟨R3, 0, none⟩, cb.length, F, k, some ⟨p, 0, none⟩, pss.length, a6, c6, H.rc.cell (i := 0) (by omega), H.rc.cell (i := 1) (by omega), H.rc.cell (i := 2) (by omega), H.rc.cell (i := 3) (by omega), H.rc.cell (i := 4) (by omega), ?_, H.rc.cell (i := 6) (by omega), hrow_cut H.bun.rh H.links H.cut, H.l1.lrow, H.l2.lrow, H.l3.lrow, H.bun.rF, H.pool.lrow hl H.bun.rp, r6.out⟩
  rw [pad_len]; exact H.rc.cell (i := 5) (by omega)
end
end Go.Proofs.Qxb6605294a
