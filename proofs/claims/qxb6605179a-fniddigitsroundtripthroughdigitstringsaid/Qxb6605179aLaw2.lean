import Derived.Test.Qxb6605179aStrip
import Derived.ShutString
import Derived.ChangeOld
import Derived.Below
namespace Go.Proofs.Qxb6605179a.fnIDDigitsRoundTripThroughDigitString
open Go.ChangeShapes Go.WideShapes Go.ChangeAt Go.RowKit Plain
open Go.ChangeMaps (open_string shut_string)
set_option linter.unusedVariables false

theorem own : ownKnob Try.prog.godebug = none := by kernel_rfl

theorem idDigits_yes (s : ByteArray) (n : Nat) (w : World) (hm : s.size ≤ 65536) (H : Hid (idDig (bs s) = some n)) :
    Calls Try.prog 20 #[.string s] w fun e w' => e = .returned (.tuple #[.int .i64 (n : Int), .bool true]) ∧ w' = w := by
  have := idDigits_any s w hm; rw [H.out] at this; exact this
theorem idDigits_no (s : ByteArray) (w : World) (hm : s.size ≤ 65536) (H : Hid (idDig (bs s) = none)) :
    Calls Try.prog 20 #[.string s] w fun e w' => e = .returned (.tuple #[.int .i64 0, .bool false]) ∧ w' = w := by
  have := idDigits_any s w hm; rw [H.out] at this; exact this
theorem strip_str (s hS : ByteArray) (w : World) (hm : s.size ≤ 65536) (H : Hid (hS = strOfNums (strip (bs s)))) :
    Calls Try.prog 10 #[.string s] w fun e w' => e = .returned (.string hS) ∧ Below w.heap.size w w' := by
  rw [H.out]; exact strip_any s w _ hm rfl
theorem hyph_str (hS F : ByteArray) (w : World) (hm : hS.size ≤ 32) (H : Hid (F = strOfNums (hyph (bs hS) 0))) :
    Calls Try.prog 12 #[.string hS] w fun e w' => e = .returned (.string F) ∧ Below w.heap.size w w' := by
  rw [H.out]; exact hyph_any hS w _ hm rfl

def Bytes (xs : List Int) : Prop := ∀ c ∈ xs, 0 ≤ c ∧ c ≤ 255
theorem bs_bytes (s : ByteArray) : Bytes (bs s) := by
  intro c hc
  simp only [bs, List.mem_map] at hc
  obtain ⟨u, _, rfl⟩ := hc
  have := u.toNat_lt
  omega
theorem bs_str {xs : List Int} (h : Bytes xs) : bs (strOfNums xs) = xs := by
  simp only [bs, strOfNums_data, List.map_map]
  conv => rhs; rw [← List.map_id xs]
  refine List.map_congr_left fun c hc => ?_
  have := h c hc
  simp only [Function.comp, id]
  rw [UInt8.toNat_ofNat_of_lt' (by simp [UInt8.size]; omega)]
  omega
theorem bytes_strip {xs : List Int} (h : Bytes xs) : Bytes (strip xs) := fun c hc => h c (List.mem_filter.mp hc).1
theorem bytes_hyph (xs : List Int) : ∀ d, Bytes xs → Bytes (hyph xs d) := by
  induction xs with
  | nil => intro d _ c hc; cases hc
  | cons x r ih =>
    intro d h c hc
    have h0 := h x (by simp)
    have hr := ih (d + 1) (fun c hc => h c (by simp [hc]))
    simp only [hyph] at hc
    split at hc
    · simp only [List.mem_cons] at hc
      rcases hc with rfl | rfl | hc
      · omega
      · exact h0
      · exact hr c hc
    · simp only [List.mem_cons] at hc
      rcases hc with rfl | hc
      · exact h0
      · exact hr c hc

theorem bs_inj {a b : ByteArray} : bs a = bs b ↔ a.toList = b.toList := by
  rw [Go.ByteArray.toList_eq, Go.ByteArray.toList_eq]
  refine ⟨fun h => ?_, fun h => by rw [bs, bs, h]⟩
  simp only [bs] at h
  exact List.map_inj_right (fun x y hxy => by
    have : x.toNat = y.toNat := by omega
    exact UInt8.toNat_inj.mp this) |>.mp h
theorem bs_dash (F : ByteArray) : bs (F ++ { data := #[45] }) = bs F ++ [45] := by
  simp [bs]

theorem eq_first {a0 hS F : ByteArray} (HS : Hid (hS = strOfNums (strip (bs a0)))) (HF : Hid (F = strOfNums (hyph (bs hS) 0))) :
    bs F = hyph (strip (bs a0)) 0 ∧ bs hS = strip (bs a0) := by
  have h1 : bs hS = strip (bs a0) := by rw [HS.out]; exact bs_str (bytes_strip (bs_bytes a0))
  refine ⟨?_, h1⟩
  rw [HF.out, h1]; exact bs_str (bytes_hyph _ 0 (bytes_strip (bs_bytes a0)))

theorem size_F {hS F : ByteArray} (HF : Hid (F = strOfNums (hyph (bs hS) 0))) (h : hS.size ≤ 32) : F.size ≤ 36 := by
  rw [HF.out, strOfNums_size]
  have h1 := hyph_len (bs hS) 0
  have h2 := (posOf_le hS.size).mp h
  simp only [Nat.zero_add, show posOf 0 = 0 from rfl, Nat.add_zero, bs_len] at h1
  rcases h1 with h1 | h1
  · omega
  · rw [h1]; simp [hyph]

theorem dig_yes {a0 hS F : ByteArray} (HS : Hid (hS = strOfNums (strip (bs a0)))) (HF : Hid (F = strOfNums (hyph (bs hS) 0))) (h32 : hS.size ≤ 32) (hx : allHex (bs hS) = true)
    (h : a0.toList = F.toList ∨ (Plain.mark hS.size = true ∧ a0.toList = (F ++ { data := #[45] }).toList)) : Hid (idDig (bs a0) = some hS.size) := by
  obtain ⟨e1, e2⟩ := eq_first HS HF
  have e3 : hS.size = (strip (bs a0)).length := by rw [← e2, bs_len]
  show idDig (bs a0) = some hS.size
  rw [law2, if_pos, e3]
  simp only [wantOK, Bool.and_eq_true, Bool.or_eq_true, decide_eq_true_eq, beq_iff_eq]
  rw [e2] at hx
  refine ⟨⟨by omega, hx⟩, ?_⟩
  rw [← bs_inj, ← bs_inj, bs_dash, e1, e3] at h
  exact h

theorem dig_no {a0 hS F : ByteArray} (HS : Hid (hS = strOfNums (strip (bs a0)))) (HF : Hid (F = strOfNums (hyph (bs hS) 0)))
    (h : ¬ (hS.size ≤ 32 ∧ allHex (bs hS) = true ∧ (a0.toList = F.toList ∨ (Plain.mark hS.size = true ∧ a0.toList = (F ++ { data := #[45] }).toList)))) : Hid (idDig (bs a0) = none) := by
  obtain ⟨e1, e2⟩ := eq_first HS HF
  have e3 : hS.size = (strip (bs a0)).length := by rw [← e2, bs_len]
  show idDig (bs a0) = none
  rw [law2, if_neg]
  intro hw
  apply h
  simp only [wantOK, Bool.and_eq_true, Bool.or_eq_true, decide_eq_true_eq, beq_iff_eq] at hw
  obtain ⟨⟨h1, h2⟩, h3⟩ := hw
  rw [e2, ← bs_inj, ← bs_inj, bs_dash, e1, e3]
  exact ⟨h1, h2, h3⟩

theorem marks {n : Nat} (h : n ≤ 32) : (Plain.mark n = true ∧ (((n : Int) == 8) = true ∨ (((n : Int) == 8) = false ∧ ((n : Int) == 12) = true) ∨ (((n : Int) == 8) = false ∧ ((n : Int) == 12) = false ∧ ((n : Int) == 16) = true) ∨ (((n : Int) == 8) = false ∧ ((n : Int) == 12) = false ∧ ((n : Int) == 16) = false ∧ ((n : Int) == 20) = true))) ∨
    (Plain.mark n = false ∧ ((n : Int) == 8) = false ∧ ((n : Int) == 12) = false ∧ ((n : Int) == 16) = false ∧ ((n : Int) == 20) = false) := by
  by_cases hm : Plain.mark n = true
  · refine .inl ⟨hm, ?_⟩
    simp only [Plain.mark, Bool.or_eq_true, beq_iff_eq] at hm
    simp only [beq_iff_eq, beq_eq_false_iff_ne]; omega
  · refine .inr ⟨by simpa using hm, ?_⟩
    simp only [Plain.mark, Bool.or_eq_true, beq_iff_eq] at hm
    simp only [beq_eq_false_iff_ne]; omega

set_option maxHeartbeats 2000000 in
/-- accepted: the three tests ahead, whatever they say -/
theorem walk_yes (a0 hS F : ByteArray) (w : World) (h : a0.size ≤ 65536) (h32 : hS.size ≤ 32) (hF : F.size ≤ 36) (HS : Hid (hS = strOfNums (strip (bs a0)))) (HF : Hid (F = strOfNums (hyph (bs hS) 0)))
    (HX : Hid (allHex (bs hS) = true)) (HN : Hid (idDig (bs a0) = some hS.size)) (b1 b2 : Bool) (e1 : (a0.toList == F.toList) = b1) (e2 : (a0.toList == (F ++ { data := #[45] }).toList) = b2)
    (hm : (b1 = true ∧ (((hS.size : Int) == 8) = false ∧ ((hS.size : Int) == 12) = false ∧ ((hS.size : Int) == 16) = false ∧ ((hS.size : Int) == 20) = false)) ∨
      ((b1 = true ∨ b2 = true) ∧ (((hS.size : Int) == 8) = true ∨ (((hS.size : Int) == 8) = false ∧ ((hS.size : Int) == 12) = true) ∨ (((hS.size : Int) == 8) = false ∧ ((hS.size : Int) == 12) = false ∧ ((hS.size : Int) == 16) = true) ∨ (((hS.size : Int) == 8) = false ∧ ((hS.size : Int) == 12) = false ∧ ((hS.size : Int) == 16) = false ∧ ((hS.size : Int) == 20) = true)))) :
    Calls Try.prog 4 #[.string a0] w fun e w' => e = .returned (.bool true) ∧ Below w.heap.size w w' := by
  have hz : (hS.size : Int) ≤ 32 := by omega
  rcases hm with ⟨rfl, m1, m2, m3, m4⟩ | ⟨hb, m1 | ⟨m1, m2⟩ | ⟨m1, m2, m3⟩ | ⟨m1, m2, m3, m4⟩⟩
  · go_enter Try.func4, Try.ntmps4
    go_wp2_with (first | (go_at_call 20; refine (idDigits_yes a0 hS.size _ h HN).mono ?_; rintro e w' ⟨rfl, rfl⟩) | (go_at_call 10; refine (strip_str a0 hS _ h HS).mono ?_; rintro e w' ⟨rfl, hb1⟩) | (go_at_call 11; refine (allHex_any hS _ true (by omega) HX).mono ?_; rintro e w' ⟨rfl, rfl⟩) | (go_at_call 12; refine (hyph_str hS F _ h32 HF).mono ?_; rintro e w' ⟨rfl, hb2⟩) | go_in)
    go_ret
    exact ⟨by simp, hb1.trans (hb2.mono hb1.size)⟩
  all_goals
    rcases hb with rfl | rfl
    · cases b2
      all_goals
        go_enter Try.func4, Try.ntmps4
        go_wp2_with (first | (go_at_call 20; refine (idDigits_yes a0 hS.size _ h HN).mono ?_; rintro e w' ⟨rfl, rfl⟩) | (go_at_call 10; refine (strip_str a0 hS _ h HS).mono ?_; rintro e w' ⟨rfl, hb1⟩) | (go_at_call 11; refine (allHex_any hS _ true (by omega) HX).mono ?_; rintro e w' ⟨rfl, rfl⟩) | (go_at_call 12; refine (hyph_str hS F _ h32 HF).mono ?_; rintro e w' ⟨rfl, hb2⟩) | go_in)
        go_ret
        exact ⟨by simp, hb1.trans (hb2.mono hb1.size)⟩
    · cases b1
      all_goals
        go_enter Try.func4, Try.ntmps4
        go_wp2_with (first | (go_at_call 20; refine (idDigits_yes a0 hS.size _ h HN).mono ?_; rintro e w' ⟨rfl, rfl⟩) | (go_at_call 10; refine (strip_str a0 hS _ h HS).mono ?_; rintro e w' ⟨rfl, hb1⟩) | (go_at_call 11; refine (allHex_any hS _ true (by omega) HX).mono ?_; rintro e w' ⟨rfl, rfl⟩) | (go_at_call 12; refine (hyph_str hS F _ h32 HF).mono ?_; rintro e w' ⟨rfl, hb2⟩) | go_in)
        go_ret
        exact ⟨by simp, hb1.trans (hb2.mono hb1.size)⟩

set_option maxHeartbeats 2000000 in
/-- the digits fit, but neither form rebuilds the string -/
theorem walk_no (a0 hS F : ByteArray) (w : World) (h : a0.size ≤ 65536) (h32 : hS.size ≤ 32) (hF : F.size ≤ 36) (HS : Hid (hS = strOfNums (strip (bs a0)))) (HF : Hid (F = strOfNums (hyph (bs hS) 0)))
    (HX : Hid (allHex (bs hS) = true)) (HN : Hid (idDig (bs a0) = none)) (e1 : (a0.toList == F.toList) = false)
    (hm : (((hS.size : Int) == 8) = false ∧ ((hS.size : Int) == 12) = false ∧ ((hS.size : Int) == 16) = false ∧ ((hS.size : Int) == 20) = false) ∨
      ((a0.toList == (F ++ { data := #[45] }).toList) = false ∧ (((hS.size : Int) == 8) = true ∨ (((hS.size : Int) == 8) = false ∧ ((hS.size : Int) == 12) = true) ∨ (((hS.size : Int) == 8) = false ∧ ((hS.size : Int) == 12) = false ∧ ((hS.size : Int) == 16) = true) ∨ (((hS.size : Int) == 8) = false ∧ ((hS.size : Int) == 12) = false ∧ ((hS.size : Int) == 16) = false ∧ ((hS.size : Int) == 20) = true)))) :
    Calls Try.prog 4 #[.string a0] w fun e w' => e = .returned (.bool true) ∧ Below w.heap.size w w' := by
  have hz : (hS.size : Int) ≤ 32 := by omega
  rcases hm with ⟨m1, m2, m3, m4⟩ | ⟨e2, m1 | ⟨m1, m2⟩ | ⟨m1, m2, m3⟩ | ⟨m1, m2, m3, m4⟩⟩
  all_goals
    go_enter Try.func4, Try.ntmps4
    go_wp2_with (first | (go_at_call 20; refine (idDigits_no a0 _ h HN).mono ?_; rintro e w' ⟨rfl, rfl⟩) | (go_at_call 10; refine (strip_str a0 hS _ h HS).mono ?_; rintro e w' ⟨rfl, hb1⟩) | (go_at_call 11; refine (allHex_any hS _ true (by omega) HX).mono ?_; rintro e w' ⟨rfl, rfl⟩) | (go_at_call 12; refine (hyph_str hS F _ h32 HF).mono ?_; rintro e w' ⟨rfl, hb2⟩) | go_in)
    go_ret
    exact ⟨by simp, hb1.trans (hb2.mono hb1.size)⟩

set_option maxHeartbeats 2000000 in
theorem walk_far (a0 hS : ByteArray) (w : World) (h : a0.size ≤ 65536) (hle : hS.size ≤ a0.size) (HS : Hid (hS = strOfNums (strip (bs a0)))) (HN : Hid (idDig (bs a0) = none))
    (hx : (32 : Int) < (hS.size : Int) ∨ ((hS.size : Int) ≤ 32 ∧ Hid (allHex (bs hS) = false))) :
    Calls Try.prog 4 #[.string a0] w fun e w' => e = .returned (.bool true) ∧ Below w.heap.size w w' := by
  rcases hx with hx | ⟨hx, HX⟩
  · go_enter Try.func4, Try.ntmps4
    go_wp2_with (first | (go_at_call 20; refine (idDigits_no a0 _ h HN).mono ?_; rintro e w' ⟨rfl, rfl⟩) | (go_at_call 10; refine (strip_str a0 hS _ h HS).mono ?_; rintro e w' ⟨rfl, hb1⟩) | go_in)
    go_ret
    exact ⟨by simp, hb1⟩
  · go_enter Try.func4, Try.ntmps4
    go_wp2_with (first | (go_at_call 20; refine (idDigits_no a0 _ h HN).mono ?_; rintro e w' ⟨rfl, rfl⟩) | (go_at_call 10; refine (strip_str a0 hS _ h HS).mono ?_; rintro e w' ⟨rfl, hb1⟩) | (go_at_call 11; refine (allHex_any hS _ false (by omega) HX).mono ?_; rintro e w' ⟨rfl, rfl⟩) | go_in)
    go_ret
    exact ⟨by simp, hb1⟩

theorem walk (a0 : ByteArray) (w0 : a0.size ≤ maxLen) (w : World) :
    Calls Try.prog 4 #[.string a0] w fun e w' => e = .returned (.bool true) ∧ Below w.heap.size w w' := by
  unfold maxLen at w0
  by_cases h : a0.size ≤ 65536
  · obtain ⟨hS, HS⟩ : ∃ hS, Hid (hS = strOfNums (strip (bs a0))) := ⟨_, rfl⟩
    have hsz : hS.size = (strip (bs a0)).length := by rw [HS.out, strOfNums_size]
    have hsle : hS.size ≤ a0.size := by rw [hsz, ← bs_len a0]; exact List.length_filter_le _ _
    obtain ⟨F, HF⟩ : ∃ F, Hid (F = strOfNums (hyph (bs hS) 0)) := ⟨_, rfl⟩
    by_cases h32 : hS.size ≤ 32
    · by_cases hx : allHex (bs hS) = true
      · have hF := size_F HF h32
        by_cases e1 : a0.toList = F.toList
        · have hN := dig_yes HS HF h32 hx (.inl e1)
          rcases marks h32 with ⟨_, hm⟩ | ⟨_, hm⟩
          · exact walk_yes a0 hS F w h h32 hF HS HF hx hN true _ (by simpa using e1) rfl (.inr ⟨.inl rfl, hm⟩)
          · exact walk_yes a0 hS F w h h32 hF HS HF hx hN true _ (by simpa using e1) rfl (.inl ⟨rfl, hm⟩)
        · rcases marks h32 with ⟨hk, hm⟩ | ⟨hk, hm⟩
          · by_cases e2 : a0.toList = (F ++ { data := #[45] }).toList
            · have hN := dig_yes HS HF h32 hx (.inr ⟨hk, e2⟩)
              exact walk_yes a0 hS F w h h32 hF HS HF hx hN _ true rfl (by simpa using e2) (.inr ⟨.inr rfl, hm⟩)
            · have hN := dig_no HS HF (by rintro ⟨_, _, hh | ⟨_, hh⟩⟩; exact e1 hh; exact e2 hh)
              exact walk_no a0 hS F w h h32 hF HS HF hx hN (by simpa using e1) (.inr ⟨by simpa using e2, hm⟩)
          · have hN := dig_no HS HF (by rintro ⟨_, _, hh | ⟨hh, _⟩⟩; exact e1 hh; rw [hk] at hh; cases hh)
            exact walk_no a0 hS F w h h32 hF HS HF hx hN (by simpa using e1) (.inl hm)
      · have hN := dig_no HS HF (by rintro ⟨_, hh, _⟩; exact hx hh)
        exact walk_far a0 hS w h hsle HS hN (.inr ⟨by omega, by simpa [Hid] using hx⟩)
    · have hN := dig_no HS HF (by rintro ⟨hh, _⟩; exact h32 hh)
      exact walk_far a0 hS w h hsle HS hN (.inl (by omega))
  · by_cases h2 : a0.size ≤ 1048576
    · go_enter Try.func4, Try.ntmps4
      go_wp2
      go_ret
      exact ⟨rfl, Below.refl _ _⟩
    · go_enter Try.func4, Try.ntmps4
      go_wp2
      go_ret
      exact ⟨rfl, Below.refl _ _⟩

set_option maxRecDepth 100000 in
theorem lifted (os : Os) (started : os.Started) (H : Type) (enc : TypeId × Value → H) :
    ReturnsInHanded {} Try.checked os 4 .any (Rows.fnIDDigitsRoundTripThroughDigitStringSpec.pre6 enc Try.prog Try.f4 Rows.fnIDDigitsRoundTripThroughDigitStringRow.domain false) (Rows.fnIDDigitsRoundTripThroughDigitStringSpec.post enc Try.prog Try.f4 false true false false) := by
  refine returnsInHanded_of_change (C := Try.checked) own started (by kernel_rfl) Try.func4
    (ChangeSpec.witness6 (enc := enc) (C := Try.checked) false ⟨#[], #[.string ByteArray.empty], []⟩ 8 (by kernel_rfl) (by kernel_rfl) (by kernel_rfl) (by kernel_rfl)) ?_
  intro W base args ds gs before hval0 hW hcnd _
  have hval : ∀ (j : Nat) t v, Try.f4.params[j]? = some t → args[j]? = some v → Value.okWide Try.prog W .any base t v := hval0
  have hW' := hW
  obtain ⟨p, q, hA0, hV, rfl, hfz, hnd⟩ := hW
  have hA : DataW.TrodAll enc Try.prog W 0 (fun _ => true) true Try.f4.params.toList args.toList ds p := hA0
  rw [Try.params4] at hA hval
  obtain ⟨v0, vs0, d0, ds0, p0, q0, hargs, rfl, rfl, h0, r0⟩ := trodAll_cons hA
  obtain ⟨rfl, rfl, rfl⟩ := trodAll_nil r0
  obtain rfl : args = #[v0] := by cases args; simp_all
  obtain ⟨rfl, rfl⟩ := trodVars_none hV
  obtain ⟨a0, rfl, rfl, rfl, w0⟩ := open_string Try.underlying9 (hval 0 9 v0 rfl rfl) h0
  clear hA0 hval0
  refine (walk a0 w0 W).mono fun e W' ⟨he, bel⟩ => ?_
  subst he
  exact ⟨_, rfl, _, _, _, [], [], [], hW', trodAll_mk1 (shut_bool Try.underlying4 _), (trodAll_cons_mk (shut_string Try.underlying9 w0) trodAll_mk0), rfl, bel.frame _, fun h => by cases h⟩

theorem over : Rows.fnIDDigitsRoundTripThroughDigitStringRow.holds Try.pinned (OpenSpec.ofChange Rows.fnIDDigitsRoundTripThroughDigitStringSpec) :=
  OpenClaim.holds_of_wide 4 Try.f4 rfl rfl rfl rfl rfl rfl rfl ⟨rfl, rfl, rfl, rfl, rfl⟩ rfl rfl rfl rfl rfl (by kernel_rfl) Try.func4 (by kernel_rfl)
    (of_decide_eq_true (by kernel_rfl)) (by unfold Func.isWrapper; first | (rw [if_pos (by decide +kernel)]; kernel_rfl) | (rw [if_neg (by decide +kernel)]; exact ⟨rfl, rfl⟩))
    (fun os started H enc _ => lifted os started H enc)

theorem proved : Rows.FnIDDigitsRoundTripThroughDigitStringSaid := over
end Go.Proofs.Qxb6605179a.fnIDDigitsRoundTripThroughDigitString
