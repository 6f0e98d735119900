import Derived.Test.Qxb6605179aRows
import Derived.Test.Qxb6605179aPlain
import Derived.WalkKit
import Derived.ProofKit
import Derived.OpenShut
import Derived.WalkSpells
import Derived.WalkLawsBesides
import Derived.Deep.QuietTactic
import Derived.BigQuiet
namespace Go.Proofs.Qxb6605179a
open Go.ChangeShapes Go.WideShapes Go.ChangeAt Go.RowKit Plain
set_option linter.unusedVariables false

/-- the bytes of a string as integers -/
def bs (s : ByteArray) : List Int := s.data.toList.map (fun c => (c.toNat : Int))
theorem bs_len (s : ByteArray) : (bs s).length = s.size := by simp [bs]
theorem bs_drop (s : ByteArray) (k : Nat) (h : k < s.size) : (bs s).drop k = (s[k].toNat : Int) :: (bs s).drop (k + 1) := by
  rw [List.drop_eq_getElem_cons (by rw [bs_len]; exact h)]
  simp [bs]
  rfl
theorem bs_end (s : ByteArray) (k : Nat) (h : s.size ≤ k) : (bs s).drop k = [] := List.drop_of_length_le (by rw [bs_len]; exact h)

/-- the pair (digits, ok) -/
def res (o : Option Nat) : Value := .tuple #[.int .i64 ((o.getD 0 : Nat) : Int), .bool o.isSome]

theorem hex_any (c : Int) (w : World) (h0 : 0 ≤ c) (h1 : c ≤ 255) :
    Calls Try.prog 21 #[.int .u8 c] w fun e w' => e = .returned (.bool (hexB c)) ∧ w' = w := by
  by_cases c1 : 48 ≤ c
  · by_cases c2 : c ≤ 57
    · have e : hexB c = true := by simp [hexB, c1, c2]
      rw [e]
      go_enter Try.func21, Try.ntmps21
      go_wp2
      go_ret
      exact ⟨rfl, rfl⟩
    · by_cases c3 : 97 ≤ c
      · by_cases c4 : c ≤ 102
        · have e : hexB c = true := by simp [hexB, c3, c4]
          rw [e]
          go_enter Try.func21, Try.ntmps21
          go_wp2
          go_ret
          exact ⟨rfl, rfl⟩
        · have e : hexB c = false := by simp [hexB]; omega
          rw [e]
          go_enter Try.func21, Try.ntmps21
          go_wp2
          go_ret
          exact ⟨rfl, rfl⟩
      · have e : hexB c = false := by simp [hexB]; omega
        rw [e]
        go_enter Try.func21, Try.ntmps21
        go_wp2
        go_ret
        exact ⟨rfl, rfl⟩
  · have e : hexB c = false := by simp [hexB]; omega
    rw [e]
    have c3 : ¬ 97 ≤ c := by omega
    go_enter Try.func21, Try.ntmps21
    go_wp2
    go_ret
    exact ⟨rfl, rfl⟩

theorem full_any (j : Nat) (w : World) (h : j ≤ 4) :
    Calls Try.prog 22 #[.int .i64 j] w fun e w' => e = .returned (.int .i64 (full j : Nat)) ∧ w' = w := by
  by_cases h4 : j = 4
  · subst h4
    go_enter Try.func22, Try.ntmps22
    go_wp2
    go_ret
    exact ⟨rfl, rfl⟩
  · by_cases h0 : j = 0
    · subst h0
      go_enter Try.func22, Try.ntmps22
      go_wp2
      go_ret
      exact ⟨rfl, rfl⟩
    · have e : full j = 4 := by simp [full, h4, h0]
      have k4 : ((j : Int) == 4) = false := by simp; omega
      have k0 : ((j : Int) == 0) = false := by simp; omega
      rw [e]
      clear e h4 h0
      go_enter Try.func22, Try.ntmps22
      go_wp2
      go_ret
      exact ⟨rfl, rfl⟩

theorem res_some (d : Nat) (R : Option Nat) (h : R = some d) : Ending.returned (.tuple #[.int .i64 (d : Int), .bool true]) = .returned (res R) := by
  subst h; rfl
theorem res_none (R : Option Nat) (h : R = none) : Ending.returned (.tuple #[.int .i64 0, .bool false]) = .returned (res R) := by
  subst h; rfl

/-! idDigits, a round at a time -/
theorem idd_sep_yes {c : Int} {r : List Int} {k d : Nat} (hs : sep k = true) (hc : c = 45) : idd (c :: r) k d = idd r (k + 1) d := by
  simp only [idd]; rw [if_pos hs, if_pos hc]
theorem idd_sep_no {c : Int} {r : List Int} {k d : Nat} (hs : sep k = true) (hc : ¬ c = 45) : idd (c :: r) k d = none := by
  simp only [idd]; rw [if_pos hs, if_neg hc]
theorem idd_hex_yes {c : Int} {r : List Int} {k d : Nat} (hs : ¬ sep k = true) (hc : hexB c = true) : idd (c :: r) k d = idd r (k + 1) (d + 1) := by
  simp only [idd]; rw [if_neg hs, if_pos hc]
theorem idd_hex_no {c : Int} {r : List Int} {k d : Nat} (hs : ¬ sep k = true) (hc : ¬ hexB c = true) : idd (c :: r) k d = none := by
  simp only [idd]; rw [if_neg hs, if_neg hc]

theorem idDigits_long (s : ByteArray) (w : World) (hs : 36 < s.size) (hm : s.size ≤ 65536) :
    Calls Try.prog 20 #[.string s] w fun e w' => e = .returned (res none) ∧ w' = w := by
  go_enter Try.func20, Try.ntmps20
  go_wp2
  go_ret2
  exact ⟨rfl, rfl⟩

set_option maxHeartbeats 1000000 in
theorem idDigits_short (s : ByteArray) (w : World) (R : Option Nat) (hs : s.size ≤ 36) (hR0 : Hid (idd (bs s) 0 0 = R)) :
    Calls Try.prog 20 #[.string s] w fun e w' => e = .returned (res R) ∧ w' = w := by
  go_enter Try.func20, Try.ntmps20
  go_wp2
  go_loop [4, 5] (fun dg i => ∃ k d : Nat, k ≤ s.size ∧ d ≤ k ∧ i = .int .i64 k ∧ dg = .int .i64 d ∧ Hid (idd ((bs s).drop k) k d = R)) (fun _ i => s.size - (intOf i).toNat)
  case atStart => exact ⟨0, 0, Nat.zero_le _, Nat.le_refl _, rfl, rfl, hR0⟩
  case round =>
    obtain ⟨k, d, hk, hdk, rfl, rfl, hR⟩ := hrel
    by_cases hlt : k < s.size
    · have hb0 : (0 : Int) ≤ (s[k].toNat : Int) := by omega
      have hb1 : (s[k].toNat : Int) ≤ 255 := by have := s[k].toNat_lt; omega
      have HD : Hid ((bs s).drop k = (s[k].toNat : Int) :: (bs s).drop (k + 1)) := bs_drop s k hlt
      by_cases hsep : sep k = true
      · have HS : Hid (sep k = true) := hsep
        simp only [sep, Bool.or_eq_true, beq_iff_eq] at hsep
        by_cases hy : (s[k].toNat : Int) = 45
        · have HY : Hid ((s[k].toNat : Int) = 45) := hy
          have hy' : ((s[k].toNat : Int) != 45) = false := by simp [hy]
          have HN : Hid (idd ((bs s).drop (k + 1)) (k + 1) d = R) := by
            have h1 : idd ((bs s).drop k) k d = R := hR
            rw [show (bs s).drop k = _ from HD, idd_sep_yes HS HY] at h1; exact h1
          clear hy HD hR HY HS
          rcases hsep with ((rfl | rfl) | rfl) | rfl
          all_goals
            go_wp2
            go_round
            case rel => exact ⟨_, d, hlt, by omega, by go_num, rfl, HN⟩
            case measure => simp [intOf]; omega
        · have HY : Hid (¬ (s[k].toNat : Int) = 45) := hy
          have hy' : ((s[k].toNat : Int) != 45) = true := by simpa using hy
          have HN : Hid (R = none) := by
            have h1 : idd ((bs s).drop k) k d = R := hR
            rw [show (bs s).drop k = _ from HD, idd_sep_no HS HY] at h1; exact h1.symm
          clear hy HD hR HY HS
          rcases hsep with ((rfl | rfl) | rfl) | rfl
          all_goals
            go_wp2
            go_ret2
            exact ⟨res_none R HN, rfl⟩
      · have HS : Hid (¬ sep k = true) := hsep
        simp only [sep, Bool.or_eq_true, beq_iff_eq, not_or] at hsep
        have k1 : ((k : Int) == 8) = false := by simp; omega
        have k2 : ((k : Int) == 13) = false := by simp; omega
        have k3 : ((k : Int) == 18) = false := by simp; omega
        have k4 : ((k : Int) == 23) = false := by simp; omega
        clear hsep
        by_cases hx : hexB (s[k].toNat : Int) = true
        · have HN : Hid (idd ((bs s).drop (k + 1)) (k + 1) (d + 1) = R) := by
            have h1 : idd ((bs s).drop k) k d = R := hR
            rw [show (bs s).drop k = _ from HD, idd_hex_yes HS hx] at h1; exact h1
          have hx2 : ((48 : Int) ≤ (s[k].toNat : Int) ∧ (s[k].toNat : Int) ≤ 57) ∨ (¬ (s[k].toNat : Int) ≤ 57 ∧ (97 : Int) ≤ (s[k].toNat : Int) ∧ (s[k].toNat : Int) ≤ 102) := by
            simp only [hexB, Bool.or_eq_true, Bool.and_eq_true, decide_eq_true_eq] at hx; omega
          clear hx HD hR HS
          rcases hx2 with ⟨x1, x2⟩ | ⟨x0, x1, x2⟩
          all_goals
            go_wp2
            go_round
            case rel => exact ⟨k + 1, d + 1, hlt, by omega, by go_num, by go_num, HN⟩
            case measure => simp [intOf]; omega
        · have HN : Hid (R = none) := by
            have h1 : idd ((bs s).drop k) k d = R := hR
            rw [show (bs s).drop k = _ from HD, idd_hex_no HS hx] at h1; exact h1.symm
          have hx2 : (¬ (48 : Int) ≤ (s[k].toNat : Int)) ∨ (((48 : Int) ≤ (s[k].toNat : Int)) ∧ ¬ (s[k].toNat : Int) ≤ 57 ∧ ¬ (97 : Int) ≤ (s[k].toNat : Int)) ∨ (((48 : Int) ≤ (s[k].toNat : Int)) ∧ ¬ (s[k].toNat : Int) ≤ 57 ∧ ((97 : Int) ≤ (s[k].toNat : Int)) ∧ ¬ (s[k].toNat : Int) ≤ 102) := by
            simp only [hexB, Bool.or_eq_true, Bool.and_eq_true, decide_eq_true_eq] at hx; omega
          clear hx HD hR HS
          rcases hx2 with x0 | ⟨x0, x1, x2⟩ | ⟨x0, y0, x1, x2⟩
          all_goals
            go_wp2
            go_ret2
            exact ⟨res_none R HN, rfl⟩
    · have HN : Hid (R = some d) := by
        have h1 : idd ((bs s).drop k) k d = R := hR
        rw [bs_end s k (by omega)] at h1; exact h1.symm
      clear hR
      go_wp2
      go_ret2
      exact ⟨res_some d R HN, rfl⟩

theorem idDigits_any (s : ByteArray) (w : World) (hm : s.size ≤ 65536) :
    Calls Try.prog 20 #[.string s] w fun e w' => e = .returned (res (idDig (bs s))) ∧ w' = w := by
  by_cases h : 36 < s.size
  · have e : idDig (bs s) = none := by rw [idDig, if_pos (by rw [bs_len]; exact h)]
    rw [e]; exact idDigits_long s w h hm
  · have e : idDig (bs s) = idd (bs s) 0 0 := by rw [idDig, if_neg (by rw [bs_len]; exact h)]
    rw [e]; exact idDigits_short s w _ (by omega) rfl

end Go.Proofs.Qxb6605179a
