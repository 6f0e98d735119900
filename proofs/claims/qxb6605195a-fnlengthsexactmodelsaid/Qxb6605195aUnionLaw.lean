import Derived.Test.Qxb6605195aUnion
import Derived.Test.Qxb6605195aCover
namespace Go.Proofs.Qxb6605195a
open Go.ChangeShapes Go.WideShapes Go.ChangeAt Go.RowKit Plain
set_option linter.unusedVariables false
set_option maxRecDepth 100000

/-! ### the contracts as the law meets them -/
theorem cover_eq (a : Option Addr) (cap : Nat) (xs M : List (Int × Int)) (w0 w : World) (hm : xs.length ≤ 262144) (hd : Hid (Dom xs)) (hr : Hid (PairRow .i32 w0 a xs)) (h0 : Hid (Below w0.heap.size w0 w)) (hM : Hid (Canon M ∧ ∀ c, InR M c ↔ InR xs c)) :
    Calls Try.prog 14 #[.slice a xs.length cap] w fun e w' => (∃ a' c', e = .returned (.slice a' M.length c') ∧ Hid (PairRow .i32 w' a' M)) ∧ Hid (Below w.heap.size w w') := by
  refine (coverage_any a cap xs w hm hd (hr.out.below h0.out)).mono ?_
  rintro e w' ⟨⟨C, ⟨a', c', rfl, hp, _⟩, hC, hI⟩, hb⟩
  have : C = M := canon_unique C M hC hM.out.1 (fun c => (hI c).trans (hM.out.2 c).symm)
  subst this
  exact ⟨⟨a', c', rfl, hp⟩, hb⟩
theorem ascii_eq (a : Option Addr) (cap : Nat) (xs : List (Int × Int)) (g : Nat → Nat) (w0 w : World) (hm : xs.length ≤ 1048576) (hd : Hid (Dom xs)) (hr : Hid (PairRow .i32 w0 a xs)) (h0 : Hid (Below w0.heap.size w0 w)) (hg : Hid (Bits g (fun x => InR xs (x : Int)))) :
    Calls Try.prog 15 #[.slice a xs.length cap] w fun e w' => e = .returned (.agg #[.int .u64 (g 0 : Nat), .int .u64 (g 1 : Nat)]) ∧ Hid (Below w.heap.size w w') := by
  refine (ascii_any a cap xs w0 w hm hd hr h0).mono ?_
  rintro e w' ⟨⟨g', rfl, hg'⟩, hb⟩
  have hu := bits_unique hg' hg.out (fun x _ => Iff.rfl)
  rw [hu 0 (by omega), hu 1 (by omega)]
  exact ⟨rfl, hb⟩
theorem data_eq (b : Nat) (M : List (Int × Int)) (g : Nat → Nat) (w : World) (hm : M.length ≤ 1048576) (hs : Hid (SetAt w b M g)) :
    Calls Try.prog 12 #[.pointer (some ⟨b, 0, none⟩)] w fun e w' => (∃ a1 c1 a2 c2, e = .returned (.tuple #[.slice a1 M.length c1, .slice a2 M.length c2, .agg #[.int .u64 (g 0 : Nat), .int .u64 (g 1 : Nat)]]) ∧ Hid (IntRow .i32 w' a1 (M.map Prod.fst)) ∧ Hid (IntRow .i32 w' a2 (M.map Prod.snd))) ∧ Hid (Below w.heap.size w w') :=
  data_any b M g w hm hs.out

theorem eqIn31 (d : Nat) (x y : Int) (w : World) : (Op.equalIn (d + 2) 31 (.agg #[.int .u64 x, .int .u64 y]) (.agg #[.int .u64 x, .int .u64 y])).run Try.prog w = .ok true w := by
  have hs : (Try.prog.info? 30).isSome = true := by kernel_rfl
  obtain ⟨i30, h30⟩ := Option.isSome_iff_exists.1 hs
  rw [run_equalIn_array w (d + 1) _ _ Try.underlying31 h30]
  have hc : Try.prog.cellsOf 30 = 1 := by kernel_rfl
  have hk : Try.prog.plainKey 30 = true := by kernel_rfl
  rw [hc]
  have e1 : List.range 2 = [0, 1] := rfl
  rw [e1]
  simp only [Op.eqItems, Sem.run_bind, Nat.zero_mul, Nat.one_mul]
  rw [run_part_plain w hk (xs := #[.int .u64 x, .int .u64 y]) (off := 0) (v := .int .u64 x) rfl]
  simp only [Result.andThen_ok]
  rw [run_part_plain w hk (xs := #[.int .u64 x, .int .u64 y]) (off := 0) (v := .int .u64 x) rfl]
  simp only [Result.andThen_ok]
  rw [run_equalIn_int w d 30 .u64 .u64 x x Try.underlying30]
  simp only [Result.andThen_ok, beq_self_eq_true, Bool.not_true, Bool.false_eq_true, if_false, Sem.run_bind]
  rw [run_part_plain w hk (xs := #[.int .u64 x, .int .u64 y]) (off := 1) (v := .int .u64 y) rfl]
  simp only [Result.andThen_ok]
  rw [run_part_plain w hk (xs := #[.int .u64 x, .int .u64 y]) (off := 1) (v := .int .u64 y) rfl]
  simp only [Result.andThen_ok]
  rw [run_equalIn_int w d 30 .u64 .u64 y y Try.underlying30]
  simp
theorem neq31 (x y : Int) (w : World) : (binOp .neq 31 (.agg #[.int .u64 x, .int .u64 y]) (.agg #[.int .u64 x, .int .u64 y])).run Try.prog w = .ok (.bool false) w := by
  rw [run_neq_struct, eqIn31 9998]; rfl
theorem eql31 (x y : Int) (w : World) : (binOp .eql 31 (.agg #[.int .u64 x, .int .u64 y]) (.agg #[.int .u64 x, .int .u64 y])).run Try.prog w = .ok (.bool true) w := by
  rw [run_eql_struct, eqIn31 9998]; rfl

end Go.Proofs.Qxb6605195a
