import Derived.Test.Qxb6605195aTree
namespace Go.Proofs.Qxb6605195a
open Go.ChangeShapes Go.WideShapes Go.ChangeAt Go.RowKit Plain
set_option linter.unusedVariables false
set_option maxRecDepth 100000

/-! ### bound -/
mutual
def raw : Tr → Nat
  | .nil => 0
  | .node op _ subs _ mx => if op = 1 then 1 else if op = 2 then rawS subs else if op = 3 ∨ op = 10 then rawM subs else if op = 4 then (if mx < 0 then 0 else (mx.toNat + 1) * rawH subs) else if op = 5 ∨ op = 9 then rawH subs else 0
def rawS : List Tr → Nat
  | [] => 0
  | t :: ts => raw t + rawS ts
def rawM : List Tr → Nat
  | [] => 0
  | t :: ts => max (raw t) (rawM ts)
def rawH : List Tr → Nat
  | [] => 0
  | t :: _ => raw t
end
def sat (n : Nat) : Nat := min n 4611686018427387904
theorem sat_le (n : Nat) : sat n ≤ 4611686018427387904 := Nat.min_le_right _ _
theorem sat_add (a b : Nat) : sat (sat a + sat b) = sat (a + b) := by unfold sat; omega
theorem sat_max (a b : Nat) : max (sat a) (sat b) = sat (max a b) := by unfold sat; omega
theorem sat_mul (m b : Nat) : sat (m * sat b) = sat (m * b) := by
  unfold sat
  rcases Nat.le_total b 4611686018427387904 with h | h
  · rw [Nat.min_eq_left h]
  · rw [Nat.min_eq_right h]
    rcases Nat.eq_zero_or_pos m with rfl | hm
    · simp
    · have h1 : 4611686018427387904 ≤ m * 4611686018427387904 := Nat.le_mul_of_pos_left _ hm
      have h2 : m * 4611686018427387904 ≤ m * b := Nat.mul_le_mul_left m h
      omega

def satZ (x : Int) : Int := if 4611686018427387904 ≤ x then 4611686018427387904 else x
theorem satZ_nat (n : Nat) : satZ (n : Int) = (sat n : Nat) := by unfold satZ sat; split <;> omega
def RetU (r : Int) (e : Ending) : Prop := e = .returned (.int .u64 r)
theorem retU {r r' : Int} (h : r' = r) : RetU r (.returned (.int .u64 r')) := by rw [h]; rfl
theorem satAdd_int (a b : Int) (w : World) (ha0 : 0 ≤ a) (hb0 : 0 ≤ b) (ha : a ≤ 4611686018427387904) (hb : b ≤ 4611686018427387904) :
    Calls Try.prog 35 #[.int .u64 a, .int .u64 b] w fun e w' => RetU (satZ (a + b)) e ∧ w' = w := by
  by_cases h1 : 4611686018427387904 ≤ a
  · have hz := hid (show 4611686018427387904 = satZ (a + b) by unfold satZ; rw [if_pos (by omega)])
    go_enter Try.func35, Try.ntmps35
    go_wp2
    go_ret
    exact ⟨retU hz.out, rfl⟩
  by_cases h2 : 4611686018427387904 ≤ b
  · have hz := hid (show 4611686018427387904 = satZ (a + b) by unfold satZ; rw [if_pos (by omega)])
    go_enter Try.func35, Try.ntmps35
    go_wp2
    go_ret
    exact ⟨retU hz.out, rfl⟩
  by_cases h3 : 4611686018427387904 ≤ a + b
  · have hz := hid (show 4611686018427387904 = satZ (a + b) by unfold satZ; rw [if_pos (by omega)])
    go_enter Try.func35, Try.ntmps35
    go_wp2
    go_ret
    exact ⟨retU hz.out, rfl⟩
  · have hz := hid (show a + b = satZ (a + b) by unfold satZ; rw [if_neg (by omega)])
    go_enter Try.func35, Try.ntmps35
    go_wp2
    go_ret
    exact ⟨retU hz.out, rfl⟩
theorem satAdd_any (a b : Nat) (w : World) :
    Calls Try.prog 35 #[.int .u64 (sat a : Nat), .int .u64 (sat b : Nat)] w fun e w' => e = .returned (.int .u64 (sat (a + b) : Nat)) ∧ w' = w := by
  have h1 := sat_le a
  have h2 := sat_le b
  refine (satAdd_int (sat a : Nat) (sat b : Nat) w (by omega) (by omega) (by omega) (by omega)).mono ?_
  rintro e w' ⟨h, rfl⟩
  unfold RetU at h
  rw [← Int.natCast_add, satZ_nat, sat_add] at h
  exact ⟨h, rfl⟩
theorem satMul_int (a b : Int) (w : World) (ha0 : 0 < a) (hb0 : 0 ≤ b) (ha : a ≤ 65537) (hb : b ≤ 4611686018427387904) :
    Calls Try.prog 36 #[.int .u64 a, .int .u64 b] w fun e w' => RetU (satZ (a * b)) e ∧ w' = w := by
  have na : (a == 0) = false := by simp; omega
  by_cases h2 : b = 0
  · subst h2
    have hz := hid (show 0 = satZ (a * 0) by rw [Int.mul_zero]; rfl)
    go_enter Try.func36, Try.ntmps36
    go_wp2
    go_ret
    exact ⟨retU hz.out, rfl⟩
  have nb : (b == 0) = false := by simpa using h2
  have hpos : 0 < a * b := Int.mul_pos ha0 (by omega)
  have hq1 : (4611686018427387904 / b) * b ≤ 4611686018427387904 := Int.ediv_mul_le _ h2
  have hq2 : 4611686018427387904 < (4611686018427387904 / b + 1) * b := Int.lt_ediv_add_one_mul_self _ (by omega)
  have htd : Int.tdiv 4611686018427387904 b = 4611686018427387904 / b := Int.tdiv_eq_ediv_of_nonneg (by omega)
  have hq0 : 0 ≤ 4611686018427387904 / b := Int.ediv_nonneg (by omega) hb0
  have hq3 : 4611686018427387904 / b ≤ 4611686018427387904 := by
    have := Int.ediv_le_self b (show (0:Int) ≤ 4611686018427387904 by omega)
    omega
  by_cases h3 : 4611686018427387904 / b < a
  · have hz := hid (show 4611686018427387904 = satZ (a * b) by
      unfold satZ
      have : (4611686018427387904 / b + 1) * b ≤ a * b := Int.mul_le_mul_of_nonneg_right (by omega) hb0
      rw [if_pos (by omega)])
    clear hq1 hq2 hpos
    go_enter Try.func36, Try.ntmps36
    go_wp2
    go_ret
    exact ⟨retU hz.out, rfl⟩
  · have hle : a * b ≤ 4611686018427387904 := Int.le_trans (Int.mul_le_mul_of_nonneg_right (by omega) hb0) hq1
    have hz := hid (show a * b = satZ (a * b) by
      unfold satZ
      split <;> omega)
    clear hq1 hq2
    go_enter Try.func36, Try.ntmps36
    go_wp2
    go_ret
    exact ⟨retU hz.out, rfl⟩
theorem satMul_any (m b : Nat) (w : World) (h0 : 0 < m) (hm : m ≤ 65537) :
    Calls Try.prog 36 #[.int .u64 (m : Nat), .int .u64 (sat b : Nat)] w fun e w' => e = .returned (.int .u64 (sat (m * b) : Nat)) ∧ w' = w := by
  have h2 := sat_le b
  refine (satMul_int (m : Nat) (sat b : Nat) w (by omega) (by omega) (by omega) (by omega)).mono ?_
  rintro e w' ⟨h, rfl⟩
  unfold RetU at h
  rw [← Int.natCast_mul, satZ_nat, sat_mul] at h
  exact ⟨h, rfl⟩

theorem rawS_drop {ts : List Tr} {k : Nat} (h : k < ts.length) : rawS (ts.drop k) = raw (kid ts k) + rawS (ts.drop (k + 1)) := by
  rw [drop_kid h]; rfl
theorem rawM_drop {ts : List Tr} {k : Nat} (h : k < ts.length) : rawM (ts.drop k) = max (raw (kid ts k)) (rawM (ts.drop (k + 1))) := by
  rw [drop_kid h]; rfl
theorem raw_head {ts : List Tr} (h : 0 < ts.length) : rawH ts = raw (kid ts 0) := by
  obtain ⟨t, ts, rfl⟩ := List.exists_cons_of_length_pos h
  rfl
theorem wrap_succ (m : Nat) (h : m ≤ 65536) : IntKind.u64.wrap (IntKind.u64.wrap (m : Int) + 1) = ((m + 1 : Nat) : Int) := by
  rw [IntKind.wrap_u64, IntKind.wrap_u64]; omega
/-- a u64 that is a saturated count -/
def RetSat (n : Nat) (e : Ending) : Prop := e = .returned (.int .u64 (sat n : Nat))
theorem retSat {n : Nat} {r : Int} (h : r = (sat n : Nat)) : RetSat n (.returned (.int .u64 r)) := by rw [h]; rfl

set_option maxHeartbeats 2000000 in
theorem bound_any {w0 : World} {a : Option Addr} {t : Tr} (h : TreeAt w0 a t) : ∀ w, Hid (Below w0.heap.size w0 w) → Hid (good true t) →
    Calls Try.prog 21 #[.pointer a] w fun e w' => RetSat (raw t) e ∧ Hid (Below w.heap.size w w') := by
  induction h with
  | nil => intro w _ hg; exact absurd hg.out (by unfold good; exact id)
  | node b off op mn mx set sa sc subs ua uc ps h0 h1 g h2 hn h3 h4 b0 b1 b2 b3 b4 hp hs ih =>
    intro w HB hg
    have hg' := hg.out
    unfold good at hg'
    obtain ⟨_, _, hl, g5, g4, g4', gl⟩ := hg'
    have HG := hid (goodL_get gl)
    have HP := hid hp
    have HI := hid ih
    have k0 : w.cell? ⟨b, off, none⟩ = some (.int .u8 op) := by rw [HB.out.cell (cell_lt' h0)]; exact h0
    have k2 : w.cell? ⟨b, off + 2, none⟩ = some (.slice ua subs.length uc) := by rw [HB.out.cell (cell_lt' h2)]; exact h2
    have k4 : w.cell? ⟨b, off + 4, none⟩ = some (.int .i64 mx) := by rw [HB.out.cell (cell_lt' h4)]; exact h4
    have l2 := hid (cell_lt' k2)
    have l4 := hid (cell_lt' k4)
    clear hp hs ih h0 h1 h2 h3 h4 gl g hn
    by_cases e1 : op = 1
    · subst e1
      have HR := hid (show (1 : Int) = (sat (raw (.node 1 set subs mn mx)) : Nat) by simp [raw, sat])
      go_enter Try.func21, Try.ntmps21
      go_wp2_with fail
      go_ret
      exact ⟨retSat HR.out, Below.refl _ _⟩
    by_cases e2 : op = 2
    · subst e2
      have HR := hid (show raw (.node 2 set subs mn mx) = rawS subs by simp [raw])
      rw [HR.out]
      go_enter Try.func21, Try.ntmps21
      go_wp2_with fail
      go_loopw [3, 23] (fun s i wr => ∃ k x : Nat, k ≤ subs.length ∧ i = .int .i64 k ∧ s = .int .u64 (sat x : Nat) ∧ Hid (Below w.heap.size w wr) ∧ Hid (x + rawS (subs.drop k) = rawS subs)) (fun _ i _ => subs.length - (intOf i).toNat)
      case atStart => exact ⟨0, 0, Nat.zero_le _, rfl, rfl, Below.refl _ _, Nat.zero_add _⟩
      case round =>
        obtain ⟨k, x, hk, rfl, rfl, HB1, HD⟩ := hrel
        by_cases hlt : k < subs.length
        · obtain ⟨ub, uo, rfl, hc⟩ := HP.out (by omega)
          have c0 : wr.cell? ⟨ub, uo + k, none⟩ = some (.pointer (ps k)) := by
            have := hc k hlt
            rw [(HB.out.trans (HB1.out.mono HB.out.size)).cell (p := ⟨ub, uo + k, none⟩) (cell_lt' this)]; exact this
          have HE := hid (show x + raw (kid subs k) + rawS (subs.drop (k + 1)) = rawS subs by rw [← HD.out, rawS_drop hlt]; omega)
          clear hc HD
          go_wp2_with fail
          refine (HI.out k hlt wr (HB.out.trans (HB1.out.mono HB.out.size)) (HG.out k hlt)).mono ?_
          rintro e w1 ⟨h, B1⟩
          unfold RetSat at h
          subst h
          have HB2 := hid (below_next HB1.out B1.out)
          go_wp2_with fail
          refine (satAdd_any x (raw (kid subs k)) w1).mono ?_
          rintro e w2 ⟨rfl, rfl⟩
          go_wp2_with fail
          go_roundw
          case rel => exact ⟨k + 1, _, hlt, by go_num, rfl, HB2, HE⟩
          case measure => simp [intOf]; omega
        · have HN := hid (show ((sat x : Nat) : Int) = (sat (rawS subs) : Nat) by
            have := HD.out
            rw [List.drop_of_length_le (by omega)] at this
            have h0 : rawS [] = 0 := rfl
            rw [h0] at this
            rw [← this]; rfl)
          clear HD
          go_wp2_with fail
          go_ret
          exact ⟨retSat HN.out, HB1⟩
    by_cases e3 : op = 3 ∨ op = 10
    · have HR := hid (show raw (.node op set subs mn mx) = rawM subs by simp [raw, e1, e2, e3])
      rw [HR.out]
      rcases e3 with rfl | rfl
      all_goals
        go_enter Try.func21, Try.ntmps21
        go_wp2_with fail
        go_loopw [6, 41] (fun s i wr => ∃ k x : Nat, k ≤ subs.length ∧ i = .int .i64 k ∧ s = .int .u64 (sat x : Nat) ∧ Hid (Below w.heap.size w wr) ∧ Hid (max x (rawM (subs.drop k)) = rawM subs)) (fun _ i _ => subs.length - (intOf i).toNat)
        case atStart => exact ⟨0, 0, Nat.zero_le _, rfl, rfl, Below.refl _ _, Nat.zero_max _⟩
        case round =>
          obtain ⟨k, x, hk, rfl, rfl, HB1, HD⟩ := hrel
          by_cases hlt : k < subs.length
          · obtain ⟨ub, uo, rfl, hc⟩ := HP.out (by omega)
            have c0 : wr.cell? ⟨ub, uo + k, none⟩ = some (.pointer (ps k)) := by
              have := hc k hlt
              rw [(HB.out.trans (HB1.out.mono HB.out.size)).cell (p := ⟨ub, uo + k, none⟩) (cell_lt' this)]; exact this
            have HE := hid (show max (max x (raw (kid subs k))) (rawM (subs.drop (k + 1))) = rawM subs by rw [← HD.out, rawM_drop hlt]; omega)
            clear hc HD
            go_wp2_with fail
            refine (HI.out k hlt wr (HB.out.trans (HB1.out.mono HB.out.size)) (HG.out k hlt)).mono ?_
            rintro e w1 ⟨h, B1⟩
            unfold RetSat at h
            subst h
            have HB2 := hid (below_next HB1.out B1.out)
            have hmx := sat_max x (raw (kid subs k))
            by_cases hc : ((sat x : Nat) : Int) < (sat (raw (kid subs k)) : Nat)
            · have HM := hid (show (sat (raw (kid subs k))) = sat (max x (raw (kid subs k))) by omega)
              clear hmx
              go_wp2_with fail
              go_roundw
              case rel => exact ⟨k + 1, _, hlt, by go_num, by rw [HM.out], HB2, HE⟩
              case measure => simp [intOf]; omega
            · have HM := hid (show sat x = sat (max x (raw (kid subs k))) by omega)
              clear hmx
              go_wp2_with fail
              go_roundw
              case rel => exact ⟨k + 1, _, hlt, by go_num, by rw [HM.out], HB2, HE⟩
              case measure => simp [intOf]; omega
          · have HN := hid (show ((sat x : Nat) : Int) = (sat (rawM subs) : Nat) by
              have := HD.out
              rw [List.drop_of_length_le (by omega)] at this
              have h0 : rawM [] = 0 := rfl
              rw [h0, Nat.max_zero] at this
              rw [← this])
            clear HD
            go_wp2_with fail
            go_ret
            exact ⟨retSat HN.out, HB1⟩
    by_cases e4 : op = 4
    · subst e4
      by_cases m0 : mx < 0
      · have HR := hid (show (0 : Int) = (sat (raw (.node 4 set subs mn mx)) : Nat) by simp [raw, m0, sat])
        go_enter Try.func21, Try.ntmps21
        go_wp2_with fail
        go_ret
        exact ⟨retSat HR.out, Below.refl _ _⟩
      · have hne : 0 < subs.length := by
          rcases Nat.eq_zero_or_pos subs.length with h | h
          · exact absurd (g4 rfl (List.length_eq_zero_iff.1 h)).2 m0
          · exact h
        have HR := hid (show raw (.node 4 set subs mn mx) = (mx.toNat + 1) * raw (kid subs 0) by rw [← raw_head hne]; simp [raw, m0])
        rw [HR.out]
        have hm1 := g4' rfl rfl
        obtain ⟨m, hm⟩ : ∃ m : Nat, mx = m := ⟨mx.toNat, by omega⟩
        subst hm
        rw [Int.toNat_natCast]
        obtain ⟨ub, uo, rfl, hc⟩ := HP.out hne
        have c0 : w.cell? ⟨ub, uo, none⟩ = some (.pointer (ps 0)) := by
          have := hc 0 hne
          rw [HB.out.cell (p := ⟨ub, uo, none⟩) (cell_lt' this)]; exact this
        have lu := hid (cell_lt' c0)
        have hwr := hid (wrap_succ m (by omega))
        clear hc
        go_enter Try.func21, Try.ntmps21
        go_wp2_with fail
        go_region_held3 (fun w' => w'.cell? ⟨b, off + 4, none⟩ = some (.int .i64 m) ∧ w'.cell? ⟨b, off + 2, none⟩ = some (.slice (some ⟨ub, uo, none⟩) subs.length uc) ∧ w'.cell? ⟨ub, uo, none⟩ = some (.pointer (ps 0))) (first | exact ⟨by assumption, by assumption, by assumption⟩ | go_keep)
          (first
          | (go_at_call 21; refine (HI.out 0 hne _ ?_ (HG.out 0 hne)).mono ?_; (exact Below.drew HB.out); rintro e w1 ⟨h, B1⟩; unfold RetSat at h; subst h; (have q4 : w1.cell? ⟨b, off + 4, none⟩ = some (.int .i64 m) := (B1.out.cell (p := ⟨b, off + 4, none⟩) l4.out).trans k4); (have q2 : w1.cell? ⟨b, off + 2, none⟩ = some (.slice (some ⟨ub, uo, none⟩) subs.length uc) := (B1.out.cell (p := ⟨b, off + 2, none⟩) l2.out).trans k2); (have q0 : w1.cell? ⟨ub, uo, none⟩ = some (.pointer (ps 0)) := (B1.out.cell (p := ⟨ub, uo, none⟩) lu.out).trans c0))
          | (go_at_call 36; rw [hwr.out]; refine (satMul_any (m + 1) (raw (kid subs 0)) w1 (by omega) (by omega)).mono ?_; rintro e w2 ⟨rfl, rfl⟩))
        go_wp2_with fail
        go_ret
        exact ⟨retSat rfl, (Below.drew (Below.refl _ _)).trans B1.out⟩
    by_cases e5 : op = 5 ∨ op = 9
    · have hne : 0 < subs.length := by
        rcases Nat.eq_zero_or_pos subs.length with h | h
        · exact absurd (List.length_eq_zero_iff.1 h) (g5 e5)
        · exact h
      obtain ⟨ub, uo, rfl, hc⟩ := HP.out hne
      have c0 : w.cell? ⟨ub, uo, none⟩ = some (.pointer (ps 0)) := by
        have := hc 0 hne
        rw [HB.out.cell (p := ⟨ub, uo, none⟩) (cell_lt' this)]; exact this
      clear hc
      have HR := hid (show raw (.node op set subs mn mx) = raw (kid subs 0) by rw [← raw_head hne]; simp [raw, e1, e2, e3, e4, e5])
      rw [HR.out]
      rcases e5 with rfl | rfl
      all_goals
        go_enter Try.func21, Try.ntmps21
        go_wp2_with fail
        refine (HI.out 0 hne w HB (HG.out 0 hne)).mono ?_
        rintro e w1 ⟨h, B1⟩
        unfold RetSat at h
        subst h
        go_wp2_with fail
        go_ret
        exact ⟨retSat rfl, B1⟩
    · have HR := hid (show (0 : Int) = (sat (raw (.node op set subs mn mx)) : Nat) by simp [raw, e1, e2, e3, e4, e5, sat])
      simp only [not_or] at e3 e5
      obtain ⟨e3, e10⟩ := e3
      obtain ⟨e5, e9⟩ := e5
      go_enter Try.func21, Try.ntmps21
      go_wp2_with fail
      go_ret
      exact ⟨retSat HR.out, Below.refl _ _⟩
end Go.Proofs.Qxb6605195a
