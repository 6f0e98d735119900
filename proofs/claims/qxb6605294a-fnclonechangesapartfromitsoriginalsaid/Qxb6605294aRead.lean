import Derived.Test.Qxb6605294aGraph
set_option maxRecDepth 100000
namespace Go.Proofs.Qxb6605294a
open Go.ChangeShapes Go.WideShapes Go.ChangeAt Go.RowKit
open Go.Maps (Keyed)
set_option linter.unusedVariables false

/-- what the facts read as -/
abbrev DU := DataW Unit
abbrev FM (w : World) (b n : Nat) (D : DU) : Prop := w.ownsMap Try.prog 73 (plainElem Try.prog 3) b n D
theorem FM.below {w w' : World} {b n : Nat} {D : DU} (h : FM w b n D) (hb : Below w.heap.size w w') : FM w' b n D := by
  obtain ⟨es, clock, h1, h2⟩ := h
  exact ⟨es, clock, by rw [hb.block b (Array.getElem?_eq_some_iff.1 h1).1]; exact h1, h2⟩
theorem zero3 (w : World) : (zeroValue 3).run Try.prog w = .ok (.int .i64 0) w := Try.zeroValue3 w

set_option maxHeartbeats 1000000 in
theorem pool_any (g : Nat) (a : Option Addr) (cap : Nat) (xs : List Int) (w : World) (hm : xs.length ≤ 100000000) (hg : w.cell? ⟨g, 7, none⟩ = some (.slice a xs.length cap)) (hr : Hid (IRow w a xs)) :
    Calls Try.prog 37 #[.pointer (some ⟨g, 0, none⟩)] w fun e w' => RetRow (Value.int .i64) 0 w.heap.size xs e w' ∧ Hid (Below w.heap.size w w') := by
  obtain ⟨i0, hi0, hz0, hz1, hz2⟩ := info_parts Try.info2
  have lg := cell_lt' hg
  go_enter Try.func37, Try.ntmps37
  go_wp2_with (at_make; refine wpList_make_full _ rfl _ _ 46 rfl w.heap.size 2 i0 (.int .i64 0) 1 Try.underlying46 hi0 hz0 hz1 .i64 .i64 (xs.length : Int) (xs.length : Int) xs.length rfl rfl rfl rfl (by rw [hz2]; omega) (by unfold maxLen; omega) (Nat.le_refl _) ?_; intro w1 hown hgrow)
  have HB1 : Hid (Below w.heap.size w w1) := (Below.refl _ _).grown hgrow (Nat.le_refl _) (by simp)
  have HR1 := hid (rowIs_zero rfl hown)
  clear hown hgrow
  go_loopw [4] (fun i wr => ∃ (k : Nat) (f : Nat → Value), k ≤ xs.length ∧ i = .int .i64 k ∧ Hid (wr.rowIs w.heap.size 2 xs.length f) ∧ Hid (Filled (Value.int .i64) 0 xs k f) ∧ Hid (Below w.heap.size w wr)) (fun i _ => xs.length - (intOf i).toNat)
  case atStart => exact ⟨0, _, Nat.zero_le _, rfl, HR1, fun i hi => by omega, HB1⟩
  case round =>
    obtain ⟨k, f, hk, rfl, HR, HF, HB⟩ := hrel
    clear HR1 HB1
    have hg' := (HB.out.cell (p := ⟨g, 7, none⟩) lg).trans hg
    by_cases hlt : k < xs.length
    · obtain ⟨b, off, z, rfl, c1, _, hbl, _, HX⟩ := hr.out.get HB.out hlt
      have d1 := HR.out.cell (i := k) hlt
      have e1 := HR.out.frozen k
      have HR2 := hid (HR.out.set k (.int .i64 z))
      have HF2 := hid (filled_step HF.out HX.out)
      have HB2 : Hid (Below w.heap.size w (wr.setCell ⟨w.heap.size, k, none⟩ (.int .i64 z))) := HB.out.setCell (Nat.le_refl _) _
      go_wp2_with fail
      go_roundw
      case rel => exact ⟨k + 1, _, hlt, by go_num, HR2, HF2, HB2⟩
      case measure => simp [intOf]; omega
    · have hke := hid (show k = xs.length by omega)
      go_wp2_with fail
      go_ret
      exact ⟨⟨_, _, rfl, Nat.le_refl _, row_filled HR.out (by have := HF.out; rw [hke.out] at this; exact this), fun h => (by cases h), fun x h => (by cases h; exact ⟨Nat.le_refl _, HR.out.lt⟩)⟩, HB⟩
theorem queued_any (g : Nat) (a : Option Addr) (n cap : Nat) (w : World) (hg : w.cell? ⟨g, 8, none⟩ = some (.slice a n cap)) :
    Calls Try.prog 38 #[.pointer (some ⟨g, 0, none⟩)] w fun e w' => e = .returned (.slice a n cap) ∧ Hid (Below w.heap.size w w') := by
  go_enter Try.func38, Try.ntmps38
  go_wp2_with fail
  go_ret
  exact ⟨rfl, Below.refl _ _⟩
theorem factsLen_any (g fb n : Nat) (D : DU) (w : World) (hg : w.cell? ⟨g, 4, none⟩ = some (.map (some fb))) (hf : Hid (FM w fb n D)) :
    Calls Try.prog 51 #[.pointer (some ⟨g, 0, none⟩)] w fun e w' => e = .returned (.int .i64 (Maps.size D)) ∧ Hid (Below w.heap.size w w') := by
  have hl := hf.out.len Try.underlying75
  go_enter Try.func51, Try.ntmps51
  go_wp2_with fail
  go_ret
  exact ⟨rfl, Below.refl _ _⟩
set_option maxHeartbeats 1000000 in
theorem fact_any (g fb n : Nat) (D : DU) (k : Int × Int) (w : World) (hk : wfK k) (hg : w.cell? ⟨g, 4, none⟩ = some (.map (some fb))) (hf : Hid (FM w fb n D)) :
    Calls Try.prog 52 #[.pointer (some ⟨g, 0, none⟩), kv k] w fun e w' => (∃ c : Int, e = .returned (.tuple #[.int .i64 c, .bool (Maps.has D (kl k))]) ∧ Hid (D.atKey (kl k) (.lit (.int .i64 0)) = .lit (.int .i64 c))) ∧ Hid (Below w.heap.size w w') := by
  have lg := cell_lt' hg
  have hkey := kl_ok hk
  obtain ⟨k1, k2⟩ := k
  have W0 := hid (show (w.alloc (.cells #[.int .i64 k1, .int .i64 k2] 73)).cell? ⟨w.heap.size, 0, none⟩ = some (.int .i64 k1) ∧ (w.alloc (.cells #[.int .i64 k1, .int .i64 k2] 73)).cell? ⟨w.heap.size, 1, none⟩ = some (.int .i64 k2) by constructor <;> simp [go_sem])
  have B1 := hid ((Below.refl w.heap.size w).alloc (Nat.le_refl _) (.cells #[.int .i64 k1, .int .i64 k2] 73))
  unfold kv at hkey ⊢
  dsimp only at hkey ⊢
  go_enter Try.func52, Try.ntmps52
  go_upto_region 1 with fail
  obtain ⟨w1, hw1⟩ : ∃ x, x = w.alloc (.cells #[.int .i64 k1, .int .i64 k2] 73) := ⟨_, rfl⟩
  rw [← hw1] at W0 B1 ⊢
  clear hw1
  obtain ⟨d0, d1⟩ := W0.out
  have hg1 := (B1.out.cell (p := ⟨g, 4, none⟩) lg).trans hg
  obtain ⟨v, ps, hrun, hv⟩ := (hf.out.below B1.out).look_ok keyed73 Try.underlying75 (zero3 w1) (plainElem_int Try.underlying3 (by decide)) hkey
  obtain ⟨c, rfl, hc, hwc⟩ := plainElem_int_inv Try.underlying3 hv
  have HC := hid (congrArg Prod.fst hc)
  have hrunq : ∀ q, (Instr.lookup 75 (.map (some fb)) (.agg #[.int .i64 k1, .int .i64 k2]) true).run Try.prog (w1.drewN q) = .ok (.tuple #[.int .i64 c, .bool (Maps.has D (kl (k1, k2)))]) (w1.drewN q) := fun q => by
    obtain ⟨v', ps', hrun', hv'⟩ := (hf.out.below (below_drewN B1.out q)).look_ok keyed73 Try.underlying75 (zero3 (w1.drewN q)) (plainElem_int Try.underlying3 (by decide)) hkey
    obtain ⟨c', rfl, hc', _⟩ := plainElem_int_inv Try.underlying3 hv'
    have e1 := (congrArg Prod.fst hc').symm.trans HC.out
    simp only [DataW.lit.injEq, Lit.int.injEq, true_and] at e1
    rw [← e1]; exact hrun'
  clear hv hc hf hrun
  go_quiet (fail)
  go_wp2_with fail
  go_ret2
  exact ⟨⟨c, rfl, HC.out⟩, below_drewN B1.out _⟩
set_option maxHeartbeats 1000000 in
theorem lists_any (g : Nat) (a1 a2 a3 a5 a6 : Option Addr) (n1 c1 n2 c2 n3 c3 n5 c5 n6 c6 : Nat) (w : World) (h1 : w.cell? ⟨g, 1, none⟩ = some (.slice a1 n1 c1)) (h2 : w.cell? ⟨g, 2, none⟩ = some (.slice a2 n2 c2)) (h3 : w.cell? ⟨g, 3, none⟩ = some (.slice a3 n3 c3)) (h5 : w.cell? ⟨g, 5, none⟩ = some (.slice a5 n5 c5)) (h6 : w.cell? ⟨g, 6, none⟩ = some (.slice a6 n6 c6)) :
    Calls Try.prog 42 #[.pointer (some ⟨g, 0, none⟩)] w fun e w' => e = .returned (.tuple #[.slice a1 n1 c1, .slice a2 n2 c2, .slice a3 n3 c3, .slice a5 n5 c5, .slice a6 n6 c6]) ∧ Hid (Below w.heap.size w w') := by
  go_enter Try.func42, Try.ntmps42
  go_wp2_with fail
  go_quiet (fail)
  go_wp2_with fail
  refine bodyPost_ret (v := .tuple #[.slice a1 n1 c1, .slice a2 n2 c2, .slice a3 n3 c3, .slice a5 n5 c5, .slice a6 n6 c6]) (by simp [results, Try.results42, go_sem]) rfl ⟨rfl, below_drewN (Below.refl _ _) _⟩
set_option maxHeartbeats 1000000 in
theorem reached_any (g rb : Nat) (al at' : Option Addr) (nl cl nt ct : Nat) (mk : Int) (w : World) (h9 : w.cell? ⟨g, 9, none⟩ = some (.pointer (some ⟨rb, 0, none⟩))) (r0 : w.cell? ⟨rb, 0, none⟩ = some (.slice al nl cl)) (r1 : w.cell? ⟨rb, 1, none⟩ = some (.slice at' nt ct)) (r2 : w.cell? ⟨rb, 2, none⟩ = some (.int .u32 mk)) :
    Calls Try.prog 39 #[.pointer (some ⟨g, 0, none⟩)] w fun e w' => e = .returned (.tuple #[.bool true, .slice al nl cl, .slice at' nt ct, .int .u32 mk]) ∧ Hid (Below w.heap.size w w') := by
  go_enter Try.func39, Try.ntmps39
  go_wp2_with fail
  go_quiet (fail)
  go_wp2_with fail
  refine bodyPost_ret (v := .tuple #[.bool true, .slice al nl cl, .slice at' nt ct, .int .u32 mk]) (by simp [results, Try.results39, go_sem]) rfl ⟨rfl, below_drewN (Below.refl _ _) _⟩
end Go.Proofs.Qxb6605294a
