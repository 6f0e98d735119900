import Derived.Test.Qxb6605195aWalk1
namespace Go.Proofs.Qxb6605195a
open Go.ChangeShapes Go.WideShapes Go.ChangeAt Go.RowKit Plain
set_option linter.unusedVariables false
set_option maxRecDepth 100000

/-! ### inRaw -/
def inB (xs : List (Int × Int)) (c : Int) : Bool := xs.any fun r => decide (r.1 ≤ c) && decide (c ≤ r.2)
theorem inB_iff (xs : List (Int × Int)) (c : Int) : inB xs c = true ↔ InR xs c := by
  simp only [inB, InR, List.any_eq_true, Bool.and_eq_true, decide_eq_true_eq]

set_option maxHeartbeats 1000000 in
theorem inRaw_any (a : Option Addr) (cap : Nat) (xs : List (Int × Int)) (c : Int) (w0 w : World) (hm : xs.length ≤ 1048576) (hd : Hid (Dom xs)) (hr : Hid (PairRow .i32 w0 a xs)) (h0 : Hid (Below w0.heap.size w0 w)) :
    Calls Try.prog 33 #[.slice a xs.length cap, .int .i64 c] w fun e w' => e = .returned (.bool (inB xs c)) ∧ Hid (Below w.heap.size w w') := by
  go_enter Try.func33, Try.ntmps33
  go_wp2
  go_loopw [9] (fun i wr => ∃ k : Nat, k ≤ xs.length ∧ i = .int .i64 k ∧ Hid (Below w.heap.size w wr) ∧ Hid (inB xs c = inB (xs.drop k) c)) (fun i _ => xs.length - (intOf i).toNat)
  case atStart => exact ⟨0, Nat.zero_le _, rfl, Below.refl _ _, rfl⟩
  case round =>
    obtain ⟨k, hk, rfl, HB, HD⟩ := hrel
    by_cases hlt : k < xs.length
    · obtain ⟨b, off, lo, hi, rfl, c1, c2, hbl, HX, HM⟩ := hr.out.get (h0.out.trans (HB.out.mono h0.out.size)) hlt
      obtain ⟨q1, q2, q3, q4⟩ := hd.out (lo, hi) HM.out
      simp only at q1 q2 q3 q4
      have HB1 : Hid (Below w.heap.size w (wr.alloc (.cells #[.int .i32 lo, .int .i32 hi] 58))) := HB.out.alloc HB.out.size _
      have HE : Hid (inB xs c = ((decide (lo ≤ c) && decide (c ≤ hi)) || inB (xs.drop (k + 1)) c)) := by
        show inB xs c = _; rw [HD.out, HX.out]; rfl
      clear HB HD HX HM
      by_cases t1 : lo ≤ c
      · by_cases t2 : c ≤ hi
        · have HN : Hid (true = inB xs c) := by show true = _; rw [HE.out]; simp [t1, t2]
          clear HE
          go_wp2
          go_ret
          exact ⟨ret_bool HN.out, HB1⟩
        · have HN : Hid (inB xs c = inB (xs.drop (k + 1)) c) := by show _ = _; rw [HE.out]; simp [t2]
          clear HE
          go_wp2
          go_roundw
          case rel => exact ⟨k + 1, hlt, by go_num, HB1, HN⟩
          case measure => simp [intOf]; omega
      · have HN : Hid (inB xs c = inB (xs.drop (k + 1)) c) := by show _ = _; rw [HE.out]; simp [t1]
        clear HE
        go_wp2
        go_roundw
        case rel => exact ⟨k + 1, hlt, by go_num, HB1, HN⟩
        case measure => simp [intOf]; omega
    · have HN : Hid (false = inB xs c) := by show false = _; rw [HD.out, List.drop_of_length_le (by omega)]; rfl
      clear HD
      go_wp2
      go_ret
      exact ⟨ret_bool HN.out, HB⟩

/-! ### the bitmap of the characters below 128 -/
def Bits (g : Nat → Nat) (S : Nat → Prop) : Prop := ∀ j, j < 2 → g j < 18446744073709551616 ∧ ∀ i, i < 64 → ((g j).testBit i = true ↔ S (64 * j + i))
def orBit (g : Nat → Nat) (c : Nat) : Nat → Nat := fun j => if j = c / 64 then g j ||| 2 ^ (c % 64) else g j
theorem bits_zero : Bits (fun _ => 0) (fun _ => False) := fun j _ => ⟨by simp, fun i _ => by simp⟩
theorem bits_congr {g : Nat → Nat} {S S' : Nat → Prop} (h : Bits g S) (e : ∀ x, x < 128 → (S x ↔ S' x)) : Bits g S' :=
  fun j hj => ⟨(h j hj).1, fun i hi => ((h j hj).2 i hi).trans (e _ (by omega))⟩
theorem bits_set {g : Nat → Nat} {S : Nat → Prop} (h : Bits g S) (c : Nat) (hc : c < 128) : Bits (orBit g c) (fun x => S x ∨ x = c) := by
  intro j hj
  obtain ⟨h1, h2⟩ := h j hj
  have hp : (2 : Nat) ^ (c % 64) < 2 ^ 64 := Nat.pow_lt_pow_right (by omega) (Nat.mod_lt _ (by omega))
  unfold orBit
  by_cases e : j = c / 64
  · simp only [if_pos e]
    refine ⟨?_, fun i hi => ?_⟩
    · have := Nat.or_lt_two_pow (n := 64) (x := g j) (y := 2 ^ (c % 64)) (by omega) hp
      omega
    · rw [Nat.testBit_or, Nat.testBit_two_pow, Bool.or_eq_true, h2 i hi, decide_eq_true_eq]
      constructor
      · rintro (h3 | h3)
        · exact .inl h3
        · exact .inr (by omega)
      · rintro (h3 | h3)
        · exact .inl h3
        · exact .inr (by omega)
  · simp only [if_neg e]
    refine ⟨h1, fun i hi => ?_⟩
    rw [h2 i hi]
    constructor
    · exact .inl
    · rintro (h3 | h3)
      · exact h3
      · omega
theorem bits_unique {g g' : Nat → Nat} {S S' : Nat → Prop} (h : Bits g S) (h' : Bits g' S') (e : ∀ x, x < 128 → (S x ↔ S' x)) : ∀ j, j < 2 → g j = g' j := by
  intro j hj
  obtain ⟨a1, a2⟩ := h j hj
  obtain ⟨b1, b2⟩ := h' j hj
  refine Nat.eq_of_testBit_eq fun i => ?_
  by_cases hi : i < 64
  · rw [Bool.eq_iff_iff, a2 i hi, b2 i hi]; exact e _ (by omega)
  · rw [Nat.testBit_lt_two_pow (Nat.lt_of_lt_of_le (show g j < 2 ^ 64 by omega) (Nat.pow_le_pow_right (by omega) (by omega))),
      Nat.testBit_lt_two_pow (Nat.lt_of_lt_of_le (show g' j < 2 ^ 64 by omega) (Nat.pow_le_pow_right (by omega) (by omega)))]
theorem or_bit (m i : Nat) (hm : m < 18446744073709551616) (hi : i < 64) : bits .or .u64 (m : Int) (IntKind.u64.wrap (2 ^ i)) = ((m ||| 2 ^ i : Nat) : Int) := by
  have hp : (2 : Nat) ^ i < 18446744073709551616 := by
    have : (2 : Nat) ^ i < 2 ^ 64 := Nat.pow_lt_pow_right (by omega) hi
    omega
  have e : IntKind.u64.wrap (2 ^ i) = ((2 ^ i : Nat) : Int) := by
    rw [IntKind.wrap_u64]
    have : (2 : Int) ^ i = ((2 ^ i : Nat) : Int) := by simp
    rw [this]
    generalize (2 : Nat) ^ i = P at hp
    omega
  rw [e]; exact u64_or_nat m (2 ^ i) hm hp

/-! ### asciiOf -/
theorem rowIs_below {w w' : World} {b n : Nat} {t : TypeId} {f : Nat → Value} {B : Nat} (h : w.rowIs b t n f) (hb : Below B w w') (hB : b < B) : w'.rowIs b t n f := h.of_block (hb.block b hB)
theorem row_orBit {w : World} {B : Nat} {g : Nat → Nat} {k : Nat} (h : w.rowIs B 31 2 (fun j => .int .u64 (g j : Nat))) (hk : k < 128) (hg : g (k / 64) < 18446744073709551616) :
    (w.setCell ⟨B, k / 64, none⟩ (.int .u64 (bits .or .u64 (g (k / 64) : Nat) (IntKind.u64.wrap (2 ^ (k % 64)))))).rowIs B 31 2 (fun j => .int .u64 (orBit g k j : Nat)) := by
  refine (h.set (k / 64) _).congr fun i hi => ?_
  dsimp only [orBit]
  split
  · rename_i e; subst e; rw [or_bit _ _ hg (by omega)]
  · rfl
/-- a result: the bitmap of S -/
def RetBits (S : Nat → Prop) (e : Ending) : Prop := ∃ g : Nat → Nat, e = .returned (.agg #[.int .u64 (g 0 : Nat), .int .u64 (g 1 : Nat)]) ∧ Bits g S

set_option maxHeartbeats 1000000 in
theorem ascii_any (a : Option Addr) (cap : Nat) (xs : List (Int × Int)) (w0 w : World) (hm : xs.length ≤ 1048576) (hd : Hid (Dom xs)) (hr : Hid (PairRow .i32 w0 a xs)) (h0 : Hid (Below w0.heap.size w0 w)) :
    Calls Try.prog 15 #[.slice a xs.length cap] w fun e w' => RetBits (fun x => InR xs (x : Int)) e ∧ Hid (Below w.heap.size w w') := by
  go_enter Try.func15, Try.ntmps15
  go_wp2_with fail
  go_loopw [4] (fun i wr => ∃ (k : Nat) (g : Nat → Nat), k ≤ 128 ∧ i = .int .i64 k ∧ Hid (wr.rowIs (w.heap.size + 1) 31 2 (fun j => .int .u64 (g j : Nat))) ∧ Hid (Bits g (fun x => x < k ∧ InR xs (x : Int))) ∧ Hid (Below (w.heap.size + 1) ((w.alloc (.cells #[.int .u64 0, .int .u64 0] 31))) wr)) (fun i _ => 128 - (intOf i).toNat)
  case atStart =>
    refine ⟨0, fun _ => 0, Nat.zero_le _, rfl, ?_, bits_congr bits_zero (fun x _ => by simp), (Below.refl _ _).alloc (by simp) _⟩
    have := World.rowIs_alloc (w.alloc (.cells #[.int .u64 0, .int .u64 0] 31)) #[.int .u64 0, .int .u64 0] 31 (fun j => .int .u64 (0 : Nat)) (fun i hi => by match i, hi with | 0, _ => rfl | 1, _ => rfl)
    simpa [Hid] using this
  case round =>
    obtain ⟨k, g, hk, rfl, HR, HG, HB⟩ := hrel
    by_cases hlt : k < 128
    · have hwr : w.heap.size + 1 < wr.heap.size := HR.out.lt
      have HW : Hid (Below w0.heap.size w0 wr) := (h0.out.alloc h0.out.size _).trans (HB.out.mono (by have := h0.out.size; omega))
      have hgk := (HG.out (k / 64) (by omega)).1
      by_cases hin : inB xs k = true
      · have HI : Hid (InR xs (k : Int)) := (inB_iff _ _).mp hin
        have HG1 : Hid (Bits (orBit g k) (fun x => x < k + 1 ∧ InR xs (x : Int))) := by
          refine bits_congr (bits_set HG.out k hlt) fun x hx => ?_
          constructor
          · rintro (h1 | rfl)
            · exact ⟨by omega, h1.2⟩
            · exact ⟨by omega, HI.out⟩
          · rintro ⟨h1, h2⟩
            by_cases e : x = k
            · exact .inr e
            · exact .inl ⟨by omega, h2⟩
        go_wp2_with (go_at_call 33; refine (inRaw_any a cap xs k w0 _ hm hd hr ?_).mono ?_; (exact HW); rintro e w1 ⟨rfl, hb1⟩; (have hr1 := rowIs_below HR.out hb1.out hwr); (have e1 := hr1.cell (i := k / 64) (by omega)); (have f1 := hr1.frozen (k / 64)); (have HR1 : Hid (w1.rowIs (w.heap.size + 1) 31 2 (fun j => .int .u64 (g j : Nat))) := hr1); clear hr1)
        have HR2 := row_orBit HR1.out hlt hgk
        have HB2 := ((HB.out.trans (hb1.out.mono (by omega))).setCell (p := ⟨w.heap.size + 1, k / 64, none⟩) (Nat.le_refl _) (.int .u64 (bits .or .u64 (g (k / 64) : Nat) (IntKind.u64.wrap (2 ^ (k % 64))))))
        go_roundw
        case rel => exact ⟨k + 1, orBit g k, hlt, by go_num, HR2, HG1, HB2⟩
        case measure => simp [intOf]; omega
      · have hin' : inB xs k = false := by simpa using hin
        have HG1 : Hid (Bits g (fun x => x < k + 1 ∧ InR xs (x : Int))) := by
          refine bits_congr HG.out fun x hx => ?_
          constructor
          · rintro h1; exact ⟨by omega, h1.2⟩
          · rintro ⟨h1, h2⟩
            refine ⟨?_, h2⟩
            by_cases e : x = k
            · subst e; exact absurd ((inB_iff _ _).mpr h2) hin
            · omega
        clear hin
        go_wp2_with (go_at_call 33; refine (inRaw_any a cap xs k w0 _ hm hd hr ?_).mono ?_; (exact HW); rintro e w1 ⟨rfl, hb1⟩)
        go_roundw
        case rel => exact ⟨k + 1, g, hlt, by go_num, rowIs_below HR.out hb1.out hwr, HG1, HB.out.trans (hb1.out.mono (by omega))⟩
        case measure => simp [intOf]; omega
    · have hk2 : k = 128 := by omega
      have d0 := HR.out.cell (i := 0) (by omega)
      have d1 := HR.out.cell (i := 1) (by omega)
      have r0 : wr.cell? ⟨w.heap.size, 0, none⟩ = some (.int .u64 0) := by rw [HB.out.cell (p := ⟨w.heap.size, 0, none⟩) (by show w.heap.size < _; omega)]; simp
      have r1 : wr.cell? ⟨w.heap.size, 1, none⟩ = some (.int .u64 0) := by rw [HB.out.cell (p := ⟨w.heap.size, 1, none⟩) (by show w.heap.size < _; omega)]; simp
      have f0 : wr.frozen? ⟨w.heap.size, 0, none⟩ = false := by rw [HB.out.frozen (p := ⟨w.heap.size, 0, none⟩) (by show w.heap.size < _; omega)]; simp
      have f1 : wr.frozen? ⟨w.heap.size, 1, none⟩ = false := by rw [HB.out.frozen (p := ⟨w.heap.size, 1, none⟩) (by show w.heap.size < _; omega)]; simp
      have HG1 : Hid (Bits g (fun x => InR xs (x : Int))) := bits_congr HG.out fun x hx => ⟨fun h => h.2, fun h => ⟨by omega, h⟩⟩
      have HB2 : Hid (Below w.heap.size w ((wr.setCell ⟨w.heap.size, 0, none⟩ (.int .u64 (g 0 : Nat))).setCell ⟨w.heap.size, 1, none⟩ (.int .u64 (g 1 : Nat)))) :=
        ((((Below.refl w.heap.size w).alloc (Nat.le_refl _) _).trans (HB.out.mono (by omega))).setCell (Nat.le_refl _) _).setCell (Nat.le_refl _) _
      clear hk2 HG HB
      go_wp2_with fail
      exact bodyPost_ret (v := .agg #[.int .u64 (g 0 : Nat), .int .u64 (g 1 : Nat)]) (by simp [results, Try.results15, go_sem, r0, r1]) rfl ⟨⟨g, rfl, HG1.out⟩, HB2⟩
end Go.Proofs.Qxb6605195a
