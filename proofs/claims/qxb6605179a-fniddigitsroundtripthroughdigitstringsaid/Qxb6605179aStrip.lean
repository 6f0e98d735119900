import Derived.Test.Qxb6605179aWalks
import Derived.Laws.BytesArg
namespace Go.Proofs.Qxb6605179a
open Go.ChangeShapes Go.WideShapes Go.ChangeAt Go.RowKit Plain
set_option linter.unusedVariables false

theorem Try.info5 : (Try.prog.info? 5).map (fun i => (i.zero, i.size, i.bytes)) = some (some (.int .u8 0), 1, 1) := by kernel_rfl

theorem strip_yes {c : Int} {r : List Int} (h : c = 45) : strip (c :: r) = strip r := by subst h; rfl
theorem strip_no {c : Int} {r : List Int} (h : ¬ c = 45) : strip (c :: r) = c :: strip r := by simp [strip, h]
theorem one_u8 (c : Int) : ∀ u ∈ [Value.int .u8 c], u.oneCell' = true := by intro u hu; simp at hu; subst hu; rfl

/-- an owned row of bytes, as the conversion to a string wants it -/
theorem conv_own {w : World} {B g cap : Nat} {xs : List Int} (h : w.ownsRow B 5 1 (.slice (some ⟨g, 0, none⟩) xs.length cap) xs.length (xs.map (Value.int .u8))) :
    (convert 42 9 (.slice (some ⟨g, 0, none⟩) xs.length cap)).run Try.prog w = .ok (.string (strOfNums xs)) w := by
  refine run_convert_bytes_arg w 42 5 Try.underlying42 Try.underlying5 g 0 xs.length cap xs rfl (fun i hi => ?_) 9 Try.underlying9
  rw [Nat.zero_add, h.cellAt i (by omega)]
  simp [List.getElem?_eq_getElem hi, List.getD_eq_getElem?_getD]

set_option maxHeartbeats 1000000 in
theorem strip_any (s : ByteArray) (w : World) (R : List Int) (hs : s.size ≤ 65536) (hR0 : Hid (strip (bs s) = R)) :
    Calls Try.prog 10 #[.string s] w fun e w' => e = .returned (.string (strOfNums R)) ∧ Below w.heap.size w w' := by
  obtain ⟨i0, hi, hz0, hz1, hz2⟩ := info_parts Try.info5
  go_enter Try.func10, Try.ntmps10
  go_wp2_with (at_make; refine wpList_make_own _ rfl _ _ 42 rfl w.heap.size 5 i0 (.int .u8 0) 1 Try.underlying42 hi hz0 hz1 .i64 .i64 (s.size : Int) s.size rfl rfl rfl (by rw [hz2]; omega) (by unfold maxLen; omega) (Nat.le_refl _) ?_; intro w1 hown hgrow)
  have HB1 : Hid (Below w.heap.size w w1) := (Below.refl _ _).grown hgrow (Nat.le_refl _) (by simp)
  have HO1 : Hid (w1.ownsRow w.heap.size 5 1 (.slice (some ⟨w.heap.size, 0, none⟩) 0 s.size) 0 []) := hown
  clear hown hgrow
  go_loopw [3, 4] (fun bv i wr => ∃ (k : Nat) (xs : List Int), k ≤ s.size ∧ xs.length ≤ k ∧ i = .int .i64 k ∧ bv = .slice (some ⟨w.heap.size, 0, none⟩) xs.length s.size ∧
      Hid (wr.ownsRow w.heap.size 5 1 (.slice (some ⟨w.heap.size, 0, none⟩) xs.length s.size) xs.length (xs.map (Value.int .u8))) ∧ Hid (Below w.heap.size w wr) ∧ Hid (xs ++ strip ((bs s).drop k) = R)) (fun _ i _ => s.size - (intOf i).toNat)
  case atStart => exact ⟨0, [], Nat.zero_le _, Nat.le_refl _, rfl, rfl, HO1, HB1, hR0⟩
  case round =>
    obtain ⟨k, xs, hk, hxk, rfl, rfl, HO, HB, HR⟩ := hrel
    clear HO1 HB1
    by_cases hlt : k < s.size
    · have hb0 : (0 : Int) ≤ (s[k].toNat : Int) := by omega
      have hb1 : (s[k].toNat : Int) ≤ 255 := by have := s[k].toNat_lt; omega
      have HD : (bs s).drop k = (s[k].toNat : Int) :: (bs s).drop (k + 1) := bs_drop s k hlt
      have HR1 : xs ++ strip ((bs s).drop k) = R := HR
      rw [HD] at HR1
      clear HD HR
      by_cases hy : (s[k].toNat : Int) = 45
      · have hy' : ((s[k].toNat : Int) != 45) = false := by simp [hy]
        rw [strip_yes hy] at HR1
        have HN : Hid (xs ++ strip ((bs s).drop (k + 1)) = R) := HR1
        clear hy HR1
        go_wp2
        go_roundw
        case rel => exact ⟨k + 1, xs, hlt, by omega, by go_num, rfl, HO, HB, HN⟩
        case measure => simp [intOf]; omega
      · have hy' : ((s[k].toNat : Int) != 45) = true := by simpa using hy
        rw [strip_no hy] at HR1
        have HN : Hid ((xs ++ [(s[k].toNat : Int)]) ++ strip ((bs s).drop (k + 1)) = R) := by rw [← HR1]; simp [Hid]
        clear hy HR1
        go_wp2_with (at_builtin; refine wpList_append_fits _ rfl (.tmp 18) (.tmp 22) 42 rfl w.heap.size 5 i0 1 Try.underlying42 hi hz1 w.heap.size xs.length s.size (xs.map (Value.int .u8)) rfl (HO.out.alloc _) ⟨wr.heap.size, 0, none⟩ 1 1 [.int .u8 (s[k].toNat : Int)] rfl rfl (cell_one_new _ _ _) (one_u8 _) (by omega) ?_; intro w2 hown2 hgrow2)
        have HB2 : Hid (Below w.heap.size w w2) := by
          have hle := (show Below w.heap.size w wr from HB).size
          exact (Below.alloc HB hle _).grown hgrow2 (by simp; omega) (by intro k hk; simp at hk; omega)
        have HO2 : Hid (w2.ownsRow w.heap.size 5 1 (.slice (some ⟨w.heap.size, 0, none⟩) (xs ++ [(s[k].toNat : Int)]).length s.size) (xs ++ [(s[k].toNat : Int)]).length ((xs ++ [(s[k].toNat : Int)]).map (Value.int .u8))) := by
          simpa [Hid] using hown2
        clear hown2 hgrow2 HO HB
        go_wp2
        go_roundw
        case rel => exact ⟨k + 1, xs ++ [(s[k].toNat : Int)], hlt, by simp; omega, by go_num, by simp, HO2, HB2, HN⟩
        case measure => simp [intOf]; omega
    · have HR1 : xs ++ strip ((bs s).drop k) = R := HR
      rw [bs_end s k (by omega)] at HR1
      have HN : xs = R := by simpa [strip] using HR1
      clear HR1 HR
      subst HN
      have hcv := conv_own HO
      go_wp2
      go_ret
      exact ⟨rfl, HB⟩

theorem ret_bool {a b : Bool} (h : a = b) : Ending.returned (.bool a) = .returned (.bool b) := by rw [h]
theorem allHex_yes {c : Int} {r : List Int} (h : hexB c = true) : allHex (c :: r) = allHex r := by simp [allHex, h]
theorem allHex_no {c : Int} {r : List Int} (h : hexB c = false) : allHex (c :: r) = false := by simp [allHex, h]

set_option maxHeartbeats 1000000 in
theorem allHex_any (s : ByteArray) (w : World) (R : Bool) (hs : s.size ≤ 65536) (hR0 : Hid (allHex (bs s) = R)) :
    Calls Try.prog 11 #[.string s] w fun e w' => e = .returned (.bool R) ∧ w' = w := by
  go_enter Try.func11, Try.ntmps11
  go_wp2
  go_loop [3] (fun i => ∃ k : Nat, k ≤ s.size ∧ i = .int .i64 k ∧ Hid (allHex ((bs s).drop k) = R)) (fun i => s.size - (intOf i).toNat)
  case atStart => exact ⟨0, Nat.zero_le _, rfl, hR0⟩
  case round =>
    obtain ⟨k, hk, rfl, HR⟩ := hrel
    by_cases hlt : k < s.size
    · have hb0 : (0 : Int) ≤ (s[k].toNat : Int) := by omega
      have hb1 : (s[k].toNat : Int) ≤ 255 := by have := s[k].toNat_lt; omega
      have HD : (bs s).drop k = (s[k].toNat : Int) :: (bs s).drop (k + 1) := bs_drop s k hlt
      have HR1 : allHex ((bs s).drop k) = R := HR
      rw [HD] at HR1
      clear HD HR
      by_cases hx : hexB (s[k].toNat : Int) = true
      · rw [allHex_yes hx] at HR1
        have HN : Hid (allHex ((bs s).drop (k + 1)) = R) := HR1
        clear HR1
        go_wp2_with (go_at_call 21; refine (hex_any _ _ (by omega) (by omega)).mono ?_; rintro e w' ⟨rfl, rfl⟩)
        go_round
        case rel => exact ⟨k + 1, hlt, by go_num, HN⟩
        case measure => simp [intOf]; omega
      · have hx' : hexB (s[k].toNat : Int) = false := by simpa using hx
        rw [allHex_no hx'] at HR1
        have HN : Hid (false = R) := HR1
        clear HR1 hx
        go_wp2_with (go_at_call 21; refine (hex_any _ _ (by omega) (by omega)).mono ?_; rintro e w' ⟨rfl, rfl⟩)
        go_ret
        exact ⟨ret_bool HN.out, rfl⟩
    · have HR1 : allHex ((bs s).drop k) = R := HR
      rw [bs_end s k (by omega)] at HR1
      have HN : Hid (true = R) := HR1
      clear HR1 HR
      go_wp2
      go_ret
      exact ⟨ret_bool HN.out, rfl⟩

theorem posOf_bd (k : Nat) : posOf k ≤ k + 4 := by
  simp only [posOf]
  repeat' split
  all_goals omega

set_option maxHeartbeats 1000000 in
theorem hyph_any (s : ByteArray) (w : World) (R : List Int) (hs : s.size ≤ 32) (hR0 : Hid (hyph (bs s) 0 = R)) :
    Calls Try.prog 12 #[.string s] w fun e w' => e = .returned (.string (strOfNums R)) ∧ Below w.heap.size w w' := by
  obtain ⟨i0, hi, hz0, hz1, hz2⟩ := info_parts Try.info5
  go_enter Try.func12, Try.ntmps12
  go_wp2_with (at_make; refine wpList_make_own _ rfl _ _ 42 rfl w.heap.size 5 i0 (.int .u8 0) 1 Try.underlying42 hi hz0 hz1 .i64 .i64 ((s.size : Int) + 4) (s.size + 4) rfl rfl (by omega) (by rw [hz2]; omega) (by unfold maxLen; omega) (Nat.le_refl _) ?_; intro w1 hown hgrow)
  have HB1 : Hid (Below w.heap.size w w1) := (Below.refl _ _).grown hgrow (Nat.le_refl _) (by simp)
  have HO1 : Hid (w1.ownsRow w.heap.size 5 1 (.slice (some ⟨w.heap.size, 0, none⟩) 0 (s.size + 4)) 0 []) := hown
  clear hown hgrow
  go_loopw [3, 4] (fun bv i wr => ∃ (k : Nat) (xs : List Int), k ≤ s.size ∧ xs.length ≤ k + 4 ∧ i = .int .i64 k ∧ bv = .slice (some ⟨w.heap.size, 0, none⟩) xs.length (s.size + 4) ∧
      Hid (xs.length = posOf k) ∧ Hid (wr.ownsRow w.heap.size 5 1 (.slice (some ⟨w.heap.size, 0, none⟩) xs.length (s.size + 4)) xs.length (xs.map (Value.int .u8))) ∧ Hid (Below w.heap.size w wr) ∧ Hid (xs ++ hyph ((bs s).drop k) k = R)) (fun _ i _ => s.size - (intOf i).toNat)
  case atStart => exact ⟨0, [], Nat.zero_le _, by simp, rfl, rfl, rfl, HO1, HB1, hR0⟩
  case round =>
    obtain ⟨k, xs, hk, hxk, rfl, rfl, HX, HO, HB, HR⟩ := hrel
    clear HO1 HB1
    by_cases hlt : k < s.size
    · have hb0 : (0 : Int) ≤ (s[k].toNat : Int) := by omega
      have hb1 : (s[k].toNat : Int) ≤ 255 := by have := s[k].toNat_lt; omega
      have HD : (bs s).drop k = (s[k].toNat : Int) :: (bs s).drop (k + 1) := bs_drop s k hlt
      have HR1 : xs ++ hyph ((bs s).drop k) k = R := HR
      rw [HD] at HR1
      clear HD HR
      by_cases hm : Plain.mark k = true
      · have hp := posOf_mark k hm
        have hq := posOf_bd (k + 1)
        have hx2 : xs.length + 2 ≤ s.size + 4 := by rw [HX.out]; omega
        have hx3 : xs.length + 2 ≤ k + 5 := by rw [HX.out]; omega
        simp only [hyph, hm, if_true] at HR1
        have HN : Hid (((xs ++ [45]) ++ [(s[k].toNat : Int)]) ++ hyph ((bs s).drop (k + 1)) (k + 1) = R) := by rw [← HR1]; simp [Hid]
        have HP : Hid (((xs ++ [45]) ++ [(s[k].toNat : Int)]).length = posOf (k + 1)) := by have := HX.out; simp [Hid]; omega
        simp only [Plain.mark, Bool.or_eq_true, beq_iff_eq] at hm
        have hm2 : ((k : Int) == 8) = true ∨ (((k : Int) == 8) = false ∧ ((k : Int) == 12) = true) ∨ (((k : Int) == 8) = false ∧ ((k : Int) == 12) = false ∧ ((k : Int) == 16) = true) ∨ (((k : Int) == 8) = false ∧ ((k : Int) == 12) = false ∧ ((k : Int) == 16) = false ∧ ((k : Int) == 20) = true) := by
          simp only [beq_iff_eq, beq_eq_false_iff_ne]; omega
        clear HR1 hp hq HX hm
        rcases hm2 with k1 | ⟨k1, k2⟩ | ⟨k1, k2, k3⟩ | ⟨k1, k2, k3, k4⟩
        all_goals
          go_wp2_with (first | (at_builtin; refine wpList_append_fits _ rfl (.tmp 29) (.tmp 30) 42 rfl w.heap.size 5 i0 1 Try.underlying42 hi hz1 w.heap.size xs.length (s.size + 4) (xs.map (Value.int .u8)) rfl (HO.out.alloc _) ⟨wr.heap.size, 0, none⟩ 1 1 [.int .u8 45] rfl rfl (cell_one_new _ _ _) (one_u8 _) (by omega) ?_; intro w2 hown2 hgrow2) | (at_builtin; refine wpList_append_fits _ rfl (.tmp 32) (.tmp 36) 42 rfl w.heap.size 5 i0 1 Try.underlying42 hi hz1 w.heap.size (xs.length + 1) (s.size + 4) _ rfl (hown2.alloc _) ⟨w2.heap.size, 0, none⟩ 1 1 [.int .u8 (s[k].toNat : Int)] rfl rfl (cell_one_new _ _ _) (one_u8 _) (by omega) ?_; intro w3 hown3 hgrow3))
          have HB2 : Hid (Below w.heap.size w w2) := by
            have hle := (show Below w.heap.size w wr from HB).size
            exact (Below.alloc HB hle _).grown hgrow2 (by simp; omega) (by intro k hk; simp at hk; omega)
          have HB3 : Hid (Below w.heap.size w w3) := by
            have hle := (show Below w.heap.size w w2 from HB2).size
            exact (Below.alloc HB2 hle _).grown hgrow3 (by simp; omega) (by intro k hk; simp at hk; omega)
          have hlen : ((xs ++ [45]) ++ [(s[k].toNat : Int)]).length = xs.length + 1 + 1 := by simp
          have HO3 : Hid (w3.ownsRow w.heap.size 5 1 (.slice (some ⟨w.heap.size, 0, none⟩) ((xs ++ [45]) ++ [(s[k].toNat : Int)]).length (s.size + 4)) ((xs ++ [45]) ++ [(s[k].toNat : Int)]).length (((xs ++ [45]) ++ [(s[k].toNat : Int)]).map (Value.int .u8))) := by
            simpa [Hid] using hown3
          clear hown2 hgrow2 hown3 hgrow3 HO HB hlen
          go_wp2
          go_roundw
          case rel => exact ⟨k + 1, (xs ++ [45]) ++ [(s[k].toNat : Int)], hlt, by simp; omega, by go_num, by simp, HP, HO3, HB3, HN⟩
          case measure => simp [intOf]; omega
      · have hm' : Plain.mark k = false := by simpa using hm
        have hp := posOf_plain k hm'
        have hq := posOf_bd (k + 1)
        have hx2 : xs.length + 1 ≤ s.size + 4 := by rw [HX.out]; omega
        have hx3 : xs.length + 1 ≤ k + 1 + 4 := by rw [HX.out]; omega
        simp only [hyph, hm', Bool.false_eq_true, if_false] at HR1
        have HN : Hid ((xs ++ [(s[k].toNat : Int)]) ++ hyph ((bs s).drop (k + 1)) (k + 1) = R) := by rw [← HR1]; simp [Hid]
        have HP : Hid ((xs ++ [(s[k].toNat : Int)]).length = posOf (k + 1)) := by have := HX.out; simp [Hid]; omega
        simp only [Plain.mark, Bool.or_eq_true, beq_iff_eq, not_or] at hm
        have k1 : ((k : Int) == 8) = false := by simp; omega
        have k2 : ((k : Int) == 12) = false := by simp; omega
        have k3 : ((k : Int) == 16) = false := by simp; omega
        have k4 : ((k : Int) == 20) = false := by simp; omega
        clear HR1 hp hq HX hm hm'
        go_wp2_with (at_builtin; refine wpList_append_fits _ rfl (.tmp 32) (.tmp 36) 42 rfl w.heap.size 5 i0 1 Try.underlying42 hi hz1 w.heap.size xs.length (s.size + 4) (xs.map (Value.int .u8)) rfl (HO.out.alloc _) ⟨wr.heap.size, 0, none⟩ 1 1 [.int .u8 (s[k].toNat : Int)] rfl rfl (cell_one_new _ _ _) (one_u8 _) (by omega) ?_; intro w2 hown2 hgrow2)
        have HB2 : Hid (Below w.heap.size w w2) := by
          have hle := (show Below w.heap.size w wr from HB).size
          exact (Below.alloc HB hle _).grown hgrow2 (by simp; omega) (by intro k hk; simp at hk; omega)
        have HO2 : Hid (w2.ownsRow w.heap.size 5 1 (.slice (some ⟨w.heap.size, 0, none⟩) (xs ++ [(s[k].toNat : Int)]).length (s.size + 4)) (xs ++ [(s[k].toNat : Int)]).length ((xs ++ [(s[k].toNat : Int)]).map (Value.int .u8))) := by
          simpa [Hid] using hown2
        clear hown2 hgrow2 HO HB
        go_wp2
        go_roundw
        case rel => exact ⟨k + 1, xs ++ [(s[k].toNat : Int)], hlt, by simp; omega, by go_num, by simp, HP, HO2, HB2, HN⟩
        case measure => simp [intOf]; omega
    · have HR1 : xs ++ hyph ((bs s).drop k) k = R := HR
      rw [bs_end s k (by omega)] at HR1
      have HN : xs = R := by simpa [hyph] using HR1
      clear HR1 HR
      subst HN
      have hcv := conv_own HO
      go_wp2
      go_ret
      exact ⟨rfl, HB⟩

end Go.Proofs.Qxb6605179a
