import Derived.Test.Qxb6605179aWalks
namespace Go.Proofs.Qxb6605179a
open Go.ChangeShapes Go.WideShapes Go.ChangeAt Go.RowKit Plain
set_option linter.unusedVariables false

/-- the five cells of 'lens': the groups so far, then noughts -/
def Five (w : World) (B : Nat) (L : List Nat) : Prop :=
  ∀ j, j < 5 → w.cell? ⟨B, j, none⟩ = some (.int .i64 (L.getD j 0 : Nat)) ∧ w.frozen? ⟨B, j, none⟩ = false
theorem five_push {w : World} {B : Nat} {L : List Nat} (h : Five w B L) (cur : Nat) (hl : L.length < 5) :
    Five (w.setCell ⟨B, L.length, none⟩ (.int .i64 cur)) B (L ++ [cur]) := by
  intro j hj
  refine ⟨?_, by rw [World.frozen?_setCell]; exact (h j hj).2⟩
  by_cases e : j = L.length
  · subst e
    rw [World.cell?_setCell_same _ _ _ (h _ hj).1]
    simp [List.getD_eq_getElem?_getD]
  · have hne : (⟨B, L.length, none⟩ : Addr) ≠ ⟨B, j, none⟩ := by intro h; injection h; omega
    rw [World.cell?_setCell_other _ _ _ _ hne, (h j hj).1]
    by_cases h2 : j < L.length
    · simp [List.getD_eq_getElem?_getD, List.getElem?_append_left h2]
    · simp [List.getD_eq_getElem?_getD, List.getElem?_eq_none (show L.length ≤ j from by omega), List.getElem?_eq_none (show (L ++ [cur]).length ≤ j from by simp; omega)]
theorem getD_push {L : List Nat} {M cur : Nat} (h : ∀ j, L.getD j 0 ≤ M) (hc : cur ≤ M) : ∀ j, (L ++ [cur]).getD j 0 ≤ M := by
  intro j
  have hj := h j
  simp only [List.getD_eq_getElem?_getD] at hj ⊢
  by_cases h1 : j < L.length
  · rw [List.getElem?_append_left h1]; exact hj
  · by_cases h2 : j = L.length
    · subst h2; simpa using hc
    · rw [List.getElem?_eq_none (by simp; omega)]; simp
theorem five_drewN {w : World} {B : Nat} {L : List Nat} (h : Five w B L) (n : Nat) : Five (w.drewN n) B L := h

theorem split_hy {r : List Int} {c : Int} {L : List Nat} {cur : Nat} (hc : c = 45) (hl : ¬ L.length = 4) : split (c :: r) L cur = split r (L ++ [cur]) 0 := by
  simp only [split]; rw [if_pos hc, if_neg hl]
theorem split_hy4 {r : List Int} {c : Int} {L : List Nat} {cur : Nat} (hc : c = 45) (hl : L.length = 4) : split (c :: r) L cur = none := by
  simp only [split]; rw [if_pos hc, if_pos hl]
theorem split_hex {r : List Int} {c : Int} {L : List Nat} {cur : Nat} (hc : ¬ c = 45) (hx : hexB c = true) : split (c :: r) L cur = split r L (cur + 1) := by
  simp only [split]; rw [if_neg hc, if_pos hx]
theorem split_bad {r : List Int} {c : Int} {L : List Nat} {cur : Nat} (hc : ¬ c = 45) (hx : hexB c = false) : split (c :: r) L cur = none := by
  simp only [split]; rw [if_neg hc, if_neg (by simp [hx])]

/-- what the second loop makes of the groups G -/
theorem chk_end (G : List Nat) (j t : Nat) (h : G.length ≤ j) : chk (G.drop j) j t = some t := by
  rw [List.drop_of_length_le h]; rfl
theorem chk_last (G : List Nat) (j t : Nat) (h : G.length = j + 1) : chk (G.drop j) j t = if full j < G.getD j 0 then none else some (t + G.getD j 0) := by
  have hj : j < G.length := by omega
  rw [List.drop_eq_getElem_cons hj, List.drop_of_length_le (show G.length ≤ j + 1 from by omega)]
  simp only [chk]
  simp [List.getD_eq_getElem?_getD, List.getElem?_eq_getElem hj]
theorem chk_more (G : List Nat) (j t : Nat) (h : j + 1 < G.length) : chk (G.drop j) j t = if G.getD j 0 = full j then chk (G.drop (j + 1)) (j + 1) (t + G.getD j 0) else none := by
  have hj : j < G.length := by omega
  rw [List.drop_eq_getElem_cons hj, List.drop_eq_getElem_cons h]
  simp only [chk]
  simp [List.getD_eq_getElem?_getD, List.getElem?_eq_getElem hj]

/-- the second loop's relation, behind the first -/
def Rel2 (w : World) (R : Option Nat) (G : List Nat) (tv jv : Value) (wr : World) : Prop :=
  ∃ j t : Nat, j ≤ G.length ∧ t ≤ j * 65536 ∧ tv = .int .i64 t ∧ jv = .int .i64 j ∧ Hid (Five wr w.heap.size G) ∧ w.heap.size < wr.heap.size ∧ Hid (Below w.heap.size w wr) ∧ Hid (chk (G.drop j) j t = R)

set_option maxHeartbeats 2000000 in
theorem split_any (s : ByteArray) (w : World) (R : Option Nat) (hs : s.size ≤ 65536) (hR0 : Hid (fin (split (bs s) [] 0) = R)) :
    Calls Try.prog 8 #[.string s] w fun e w' => e = .returned (res R) ∧ Below w.heap.size w w' := by
  go_enter Try.func8, Try.ntmps8
  go_wp2
  go_loopw [5, 6, 7] (fun kk cc i wr => ∃ (k cur : Nat) (L : List Nat), k ≤ s.size ∧ L.length ≤ 4 ∧ cur ≤ k ∧ (∀ j, L.getD j 0 ≤ 65536) ∧ kk = .int .i64 L.length ∧ cc = .int .i64 cur ∧ i = .int .i64 k ∧
      Hid (Five wr w.heap.size L) ∧ w.heap.size < wr.heap.size ∧ Hid (Below w.heap.size w wr) ∧ Hid (fin (split ((bs s).drop k) L cur) = R)) (fun _ _ i _ => s.size - (intOf i).toNat)
  case atStart => 
    refine ⟨0, 0, [], Nat.zero_le _, by simp, Nat.le_refl _, by simp, rfl, rfl, rfl, ?_, by simp, (Below.refl _ _).alloc (Nat.le_refl _) _, hR0⟩
    intro j hj
    match j, hj with
    | 0, _ => simp
    | 1, _ => simp
    | 2, _ => simp
    | 3, _ => simp
    | 4, _ => simp
  case round =>
    obtain ⟨k, cur, L, hk, hL, hck, hLb, rfl, rfl, rfl, H5, hsz, HB, HR⟩ := hrel
    by_cases hlt : k < s.size
    · have hb0 : (0 : Int) ≤ (s[k].toNat : Int) := by omega
      have hb1 : (s[k].toNat : Int) ≤ 255 := by have := s[k].toNat_lt; omega
      have HD : (bs s).drop k = (s[k].toNat : Int) :: (bs s).drop (k + 1) := bs_drop s k hlt
      have HR1 : fin (split ((bs s).drop k) L cur) = R := HR
      rw [HD] at HR1
      clear HD HR
      by_cases hy : (s[k].toNat : Int) = 45
      · have hy' : ((s[k].toNat : Int) == 45) = true := by simp [hy]
        by_cases h4 : L.length = 4
        · rw [split_hy4 hy h4] at HR1
          have HN : Hid (R = none) := HR1.symm
          have h4' : ((L.length : Int) == 4) = true := by simp; omega
          clear hy HR1 h4
          go_wp2
          go_ret2
          exact ⟨res_none R HN, HB⟩
        · rw [split_hy hy h4] at HR1
          have HN : Hid (fin (split ((bs s).drop (k + 1)) (L ++ [cur]) 0) = R) := HR1
          have h4' : ((L.length : Int) == 4) = false := by simp; omega
          have hl4 : L.length < 4 := by omega
          obtain ⟨hc5, hf5⟩ := (show Five wr w.heap.size L from H5) L.length (by omega)
          have hpush := five_push H5 cur (by omega)
          have HP : Hid (Five (wr.setCell ⟨w.heap.size, L.length, none⟩ (.int .i64 cur)) w.heap.size (L ++ [cur])) := hpush
          clear hy HR1 h4 hpush
          go_wp2
          go_roundw
          case rel =>
            refine ⟨k + 1, 0, L ++ [cur], hlt, by simp; omega, Nat.zero_le _, ?_, by simp, rfl, by go_num, HP, by simpa using hsz, Below.setCell HB (Nat.le_refl _) _, HN⟩
            exact getD_push hLb (by omega)
          case measure => simp [intOf]; omega
      · have hy' : ((s[k].toNat : Int) == 45) = false := by simpa using hy
        by_cases hx : hexB (s[k].toNat : Int) = true
        · rw [split_hex hy hx] at HR1
          have HN : Hid (fin (split ((bs s).drop (k + 1)) L (cur + 1)) = R) := HR1
          clear hy HR1
          go_wp2_with (go_at_call 21; refine (hex_any _ _ (by omega) (by omega)).mono ?_; rintro e w' ⟨rfl, rfl⟩)
          go_roundw
          case rel => exact ⟨k + 1, cur + 1, L, hlt, hL, by omega, hLb, rfl, by go_num, by go_num, H5, hsz, HB, HN⟩
          case measure => simp [intOf]; omega
        · have hx' : hexB (s[k].toNat : Int) = false := by simpa using hx
          rw [split_bad hy hx'] at HR1
          have HN : Hid (R = none) := HR1.symm
          clear hy HR1 hx
          go_wp2_with (go_at_call 21; refine (hex_any _ _ (by omega) (by omega)).mono ?_; rintro e w' ⟨rfl, rfl⟩)
          go_ret2
          exact ⟨res_none R HN, HB⟩
    · have HR1 : fin (split ((bs s).drop k) L cur) = R := HR
      rw [bs_end s k (by omega)] at HR1
      obtain ⟨hc5, hf5⟩ := (show Five wr w.heap.size L from H5) L.length (by omega)
      have HP : Hid (Five (wr.setCell ⟨w.heap.size, L.length, none⟩ (.int .i64 cur)) w.heap.size (L ++ [cur])) := five_push H5 cur (by omega)
      have HN : Hid (chk (L ++ [cur]) 0 0 = R) := HR1
      clear HR HR1
      go_wp2
      go_loopw [9, 10] (Rel2 w R (L ++ [cur])) (fun _ j _ => (L ++ [cur]).length - (intOf j).toNat)
      case atStart => exact ⟨0, 0, Nat.zero_le _, by omega, rfl, rfl, HP, by simpa using hsz, Below.setCell HB (Nat.le_refl _) _, HN⟩
      case round =>
        obtain ⟨j, t, hj, ht, rfl, rfl, H5, hsz, HB, HR⟩ := hrel
        have hx0 := getD_push hLb (show cur ≤ 65536 by omega) j
        have hxg : ∃ x, x = (L ++ [cur]).getD j 0 := ⟨_, rfl⟩
        obtain ⟨x, hx⟩ := hxg
        have HX : Hid (x = (L ++ [cur]).getD j 0) := hx
        rw [← hx] at hx0
        clear hx
        have hj' : j ≤ L.length + 1 := by simpa using hj
        have HR1 : chk ((L ++ [cur]).drop j) j t = R := HR
        clear HR HN HP
        by_cases hlt : j < L.length + 1
        · obtain ⟨hc5, hf5⟩ := (show Five wr w.heap.size (L ++ [cur]) from H5) j (by omega)
          rw [← HX.out] at hc5
          have hfl : full j ≤ 12 := by unfold full; split <;> (try split) <;> omega
          by_cases hin : j < L.length
          · rw [chk_more _ _ _ (by simp; omega), ← HX.out] at HR1
            by_cases he : x = full j
            · rw [if_pos he] at HR1
              have HN : Hid (chk ((L ++ [cur]).drop (j + 1)) (j + 1) (t + x) = R) := HR1
              have he' : ((x : Int) != (full j : Int)) = false := by simp; omega
              clear he HR1
              go_wp2
              go_quiet ((go_at_call 22; exact Calls.quiet_of_same (full_any _ _ (by omega))))
              go_wp2
              go_roundw
              case rel => exact ⟨j + 1, t + x, by simp; omega, by omega, by go_num, by go_num, H5, hsz, below_drewN HB _, HN⟩
              case measure => simp [intOf]; omega
            · rw [if_neg he] at HR1
              have HN : Hid (R = none) := HR1.symm
              have he' : ((x : Int) != (full j : Int)) = true := by simp; omega
              clear he HR1
              go_wp2
              go_quiet ((go_at_call 22; exact Calls.quiet_of_same (full_any _ _ (by omega))))
              go_wp2
              go_ret2
              exact ⟨res_none R HN, below_drewN HB _⟩
          · rw [chk_last _ _ _ (by simp; omega), ← HX.out] at HR1
            by_cases he : full j < x
            · rw [if_pos he] at HR1
              have HN : Hid (R = none) := HR1.symm
              have he' : ((full j : Nat) : Int) < (x : Int) := by omega
              clear he HR1
              go_wp2
              go_quiet ((go_at_call 22; exact Calls.quiet_of_same (full_any _ _ (by omega))))
              go_wp2
              go_ret2
              exact ⟨res_none R HN, below_drewN HB _⟩
            · rw [if_neg he] at HR1
              have HN : Hid (chk ((L ++ [cur]).drop (j + 1)) (j + 1) (t + x) = R) := by
                rw [chk_end _ _ _ (by simp; omega)]; exact HR1
              have he' : ¬ ((full j : Nat) : Int) < (x : Int) := by omega
              clear he HR1
              go_wp2
              go_quiet ((go_at_call 22; exact Calls.quiet_of_same (full_any _ _ (by omega))))
              go_wp2
              go_roundw
              case rel => exact ⟨j + 1, t + x, by simp; omega, by omega, by go_num, by go_num, H5, hsz, below_drewN HB _, HN⟩
              case measure => simp [intOf]; omega
        · rw [chk_end _ _ _ (by simp; omega)] at HR1
          have HN : Hid (R = some t) := HR1.symm
          clear HR1
          go_wp2
          go_ret2
          exact ⟨res_some t R HN, HB⟩

end Go.Proofs.Qxb6605179a
