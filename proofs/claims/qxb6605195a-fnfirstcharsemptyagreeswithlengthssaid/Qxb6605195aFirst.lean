import Derived.Test.Qxb6605195aZero
import Derived.Test.Qxb6605195aBuild2
set_option maxRecDepth 100000
namespace Go.Proofs.Qxb6605195a
open Go.ChangeShapes Go.WideShapes Go.ChangeAt Go.RowKit Plain
set_option linter.unusedVariables false

/-- a set of at most n ranges -/
def SetOK (w : World) (p : Option Addr) (n : Nat) : Prop := ∃ b M g, p = some ⟨b, 0, none⟩ ∧ SetAt w b M g ∧ Dom M ∧ M.length ≤ n
theorem SetOK.below {w w' : World} {p : Option Addr} {n : Nat} (h : SetOK w p n) (hb : Below w.heap.size w w') : SetOK w' p n := by
  obtain ⟨b, M, g, e, s, d, l⟩ := h
  exact ⟨b, M, g, e, s.below hb, d, l⟩
theorem SetOK.mono {w : World} {p : Option Addr} {m n : Nat} (h : SetOK w p m) (hm : m ≤ n) : SetOK w p n := by
  obtain ⟨b, M, g, e, s, d, l⟩ := h
  exact ⟨b, M, g, e, s, d, Nat.le_trans l hm⟩
theorem unionOK (p1 p2 : Option Addr) (n1 n2 : Nat) (w : World) (hn : n1 + n2 ≤ 1048576) (h1 : Hid (SetOK w p1 n1)) (h2 : Hid (SetOK w p2 n2)) :
    Calls Try.prog 34 #[.pointer p1, .pointer p2] w fun e w' => (∃ p, e = .returned (.pointer p) ∧ Hid (SetOK w' p (n1 + n2))) ∧ Hid (Below w.heap.size w w') := by
  obtain ⟨b1, M1, g1, rfl, s1, d1, l1⟩ := h1.out
  obtain ⟨b2, M2, g2, rfl, s2, d2, l2⟩ := h2.out
  refine (union_any b1 b2 M1 M2 g1 g2 w (by omega) s1 s2 (fun r hr => (List.mem_append.1 hr).elim (d1 r) (d2 r))).mono ?_
  rintro e w' ⟨⟨b, M, g, rfl, s, _, d, l, _⟩, hb⟩
  exact ⟨⟨_, rfl, b, M, g, rfl, s, d, by rw [List.length_append] at l; omega⟩, hb⟩
theorem noneOK (w : World) : Calls Try.prog 30 #[.slice none 0 0] w fun e w' => (∃ p, e = .returned (.pointer p) ∧ Hid (SetOK w' p 0)) ∧ Hid (Below w.heap.size w w') := by
  have h := newSet_any none 0 [] w (by simp) (fun r hr => by simp at hr) (fun h => absurd h (by simp)) (fun _ => rfl)
  refine Calls.mono h ?_
  rintro e w' ⟨⟨b, M, g, rfl, s, _, d, l, _⟩, hb⟩
  exact ⟨⟨_, rfl, b, M, g, rfl, s, d, by simpa using l⟩, hb⟩

/-- what firstChars hands back -/
def RetFC (t : Tr) (e : Ending) (w' : World) : Prop := ∃ p em kn, e = .returned (.tuple #[.pointer p, .bool em, .bool kn]) ∧ Hid (kn = false → refB t = true) ∧ Hid (kn = true → em = emptB t ∧ SetOK w' p (rng t))
theorem retFC_no {t : Tr} {w' : World} (h : refB t = true) : RetFC t (.returned (.tuple #[.pointer none, .bool false, .bool false])) w' := ⟨none, false, false, rfl, fun _ => h, fun h => by cases h⟩
theorem retFC_yes {t : Tr} {w' : World} {p : Option Addr} {em : Bool} (h : em = emptB t) (hs : SetOK w' p (rng t)) : RetFC t (.returned (.tuple #[.pointer p, .bool em, .bool true])) w' := ⟨p, em, true, rfl, fun h => (by cases h), fun _ => ⟨h, hs⟩⟩
theorem rngL_drop {ts : List Tr} {k : Nat} (h : k < ts.length) : rngL (ts.drop k) = rng (kid ts k) + rngL (ts.drop (k + 1)) := by
  rw [drop_kid h]; rfl
theorem emptL_drop {ts : List Tr} {k : Nat} (h : k < ts.length) : emptL (ts.drop k) = (emptB (kid ts k) && emptL (ts.drop (k + 1))) := by
  rw [drop_kid h]; rfl
theorem emptA_drop {ts : List Tr} {k : Nat} (h : k < ts.length) : emptA (ts.drop k) = (emptB (kid ts k) || emptA (ts.drop (k + 1))) := by
  rw [drop_kid h]; rfl
theorem refL_kid : ∀ {ts : List Tr} {k : Nat}, k < ts.length → refB (kid ts k) = true → refL ts = true
  | [], k, h, _ => absurd h (by simp)
  | t :: ts, 0, h, hr => by rw [kid_zero] at hr; simp [refL, hr]
  | t :: ts, k + 1, h, hr => by rw [kid_succ] at hr; simp [refL, refL_kid (ts := ts) (by simpa using h) hr]
theorem rng_kid : ∀ {ts : List Tr} {k : Nat}, k < ts.length → rng (kid ts k) ≤ rngL ts
  | [], k, h => absurd h (by simp)
  | t :: ts, 0, h => by rw [kid_zero]; simp only [rngL]; omega
  | t :: ts, k + 1, h => by
    rw [kid_succ]
    have := rng_kid (ts := ts) (k := k) (by simpa using h)
    simp only [rngL]; omega

set_option maxHeartbeats 2000000 in
theorem fc_concat {w0 : World} {n : Nat} {set : List (Int × Int)} {subs : List Tr} {mn mx : Int} {ua : Option Addr} {uc : Nat} {ps : Nat → Option Addr} (hl : subs.length ≤ 131072) (hrg : rngL subs ≤ 4096)
    (HP : Hid (0 < subs.length → ∃ ub uo, ua = some ⟨ub, uo, none⟩ ∧ ∀ i, i < subs.length → w0.cell? ⟨ub, uo + i, none⟩ = some (.pointer (ps i))))
    (HI : Hid (∀ i, i < subs.length → ∀ w, Hid (Below w0.heap.size w0 w) → Calls Try.prog 41 #[.pointer (ps i)] w fun e w' => RetFC (kid subs i) e w' ∧ Hid (Below w.heap.size w w')))
    (w : World) (HB : Hid (Below w0.heap.size w0 w)) (k0 : w.cell? ⟨n, 0, none⟩ = some (.int .u8 2)) (k2 : w.cell? ⟨n, 2, none⟩ = some (.slice ua subs.length uc)) :
    Calls Try.prog 41 #[.pointer (some ⟨n, 0, none⟩)] w fun e w' => RetFC (.node 2 set subs mn mx) e w' ∧ Hid (Below w.heap.size w w') := by
  have HR := hid (show refB (.node 2 set subs mn mx) = refL subs by simp [refB])
  have HG := hid (show rng (.node 2 set subs mn mx) = set.length + rngL subs by simp [rng])
  have HE := hid (show emptB (.node 2 set subs mn mx) = emptL subs by simp [emptB])
  have ln := cell_lt' k0
  go_enter Try.func41, Try.ntmps41
  go_wp2_with fail
  refine (noneOK w).mono ?_
  rintro e wn ⟨⟨pn, rfl, SN⟩, BN⟩
  have kn0 : wn.cell? ⟨n, 0, none⟩ = some (.int .u8 2) := by rw [BN.out.cell (p := ⟨n, 0, none⟩) ln]; exact k0
  have kn2 : wn.cell? ⟨n, 2, none⟩ = some (.slice ua subs.length uc) := by rw [BN.out.cell (p := ⟨n, 2, none⟩) ln]; exact k2
  go_wp2_with fail
  go_loopw [2, 38] (fun v i wr => ∃ (k : Nat) (p : Option Addr) (q : Nat), k ≤ subs.length ∧ i = .int .i64 k ∧ v = .pointer p ∧ Hid (SetOK wr p q) ∧ q + rngL (subs.drop k) = rngL subs ∧ Hid (emptL subs = emptL (subs.drop k)) ∧ Hid (Below w.heap.size w wr)) (fun _ i _ => subs.length - (intOf i).toNat)
  case atStart => exact ⟨0, pn, 0, Nat.zero_le _, rfl, rfl, SN, by simp, rfl, BN⟩
  case round =>
    obtain ⟨k, p, q, hk, rfl, rfl, HS, hq, HC, HB1⟩ := hrel
    by_cases hlt : k < subs.length
    · obtain ⟨ub, uo, rfl, hc⟩ := HP.out (by omega)
      have C0 := hid (below_next HB.out HB1.out)
      have c0 : wr.cell? ⟨ub, uo + k, none⟩ = some (.pointer (ps k)) := by
        have := hc k hlt
        rw [C0.out.cell (p := ⟨ub, uo + k, none⟩) (cell_lt' this)]; exact this
      have hrd := rngL_drop hlt
      clear hc
      go_wp2_with fail
      refine (HI.out k hlt wr C0).mono ?_
      rintro e w1 ⟨⟨p1, em, kn, rfl, R1, R2⟩, B1⟩
      have HB2 := hid (below_next HB1.out B1.out)
      cases kn
      · have HF := hid (show refB (.node 2 set subs mn mx) = true by rw [HR.out]; exact refL_kid hlt (R1.out rfl))
        go_wp2_with fail
        go_ret3
        exact ⟨retFC_no HF.out, HB2⟩
      · have HS1 := hid (HS.out.below B1.out)
        have HS2 := hid (R2.out rfl).2
        have HEK := hid (R2.out rfl).1
        clear R1 R2
        go_wp2_with fail
        refine (unionOK p p1 q (rng (kid subs k)) w1 (by omega) HS1 HS2).mono ?_
        rintro e w2 ⟨⟨p2, rfl, S2⟩, B2⟩
        have HB3 := hid (below_next HB2.out B2.out)
        cases em
        · have HX := hid (show false = emptB (.node 2 set subs mn mx) by
            rw [HE.out, HC.out, emptL_drop hlt, ← HEK.out]; rfl)
          have HSX := hid (S2.out.mono (show q + rng (kid subs k) ≤ rng (.node 2 set subs mn mx) by rw [HG.out]; omega))
          go_wp2_with fail
          go_ret3
          exact ⟨retFC_yes HX.out HSX.out, HB3⟩
        · have HX := hid (show emptL subs = emptL (subs.drop (k + 1)) by
            rw [HC.out, emptL_drop hlt, ← HEK.out]; rfl)
          go_wp2_with fail
          go_roundw
          case rel => exact ⟨k + 1, p2, q + rng (kid subs k), hlt, by go_num, rfl, S2, by omega, HX, HB3⟩
          case measure => simp [intOf]; omega
    · have HX := hid (show true = emptB (.node 2 set subs mn mx) by
        rw [HE.out, HC.out, List.drop_of_length_le (by omega)]; rfl)
      have HSX := hid (HS.out.mono (show q ≤ rng (.node 2 set subs mn mx) by rw [HG.out]; omega))
      go_wp2_with fail
      go_ret3
      exact ⟨retFC_yes HX.out HSX.out, HB1⟩

set_option maxHeartbeats 2000000 in
theorem fc_alt {w0 : World} {n : Nat} {op : Int} (e3 : op = 3 ∨ op = 10) {set : List (Int × Int)} {subs : List Tr} {mn mx : Int} {ua : Option Addr} {uc : Nat} {ps : Nat → Option Addr} (hl : subs.length ≤ 131072) (hrg : rngL subs ≤ 4096)
    (HP : Hid (0 < subs.length → ∃ ub uo, ua = some ⟨ub, uo, none⟩ ∧ ∀ i, i < subs.length → w0.cell? ⟨ub, uo + i, none⟩ = some (.pointer (ps i))))
    (HI : Hid (∀ i, i < subs.length → ∀ w, Hid (Below w0.heap.size w0 w) → Calls Try.prog 41 #[.pointer (ps i)] w fun e w' => RetFC (kid subs i) e w' ∧ Hid (Below w.heap.size w w')))
    (w : World) (HB : Hid (Below w0.heap.size w0 w)) (k0 : w.cell? ⟨n, 0, none⟩ = some (.int .u8 op)) (k2 : w.cell? ⟨n, 2, none⟩ = some (.slice ua subs.length uc)) :
    Calls Try.prog 41 #[.pointer (some ⟨n, 0, none⟩)] w fun e w' => RetFC (.node op set subs mn mx) e w' ∧ Hid (Below w.heap.size w w') := by
  have HR := hid (show refB (.node op set subs mn mx) = refL subs by rcases e3 with rfl | rfl <;> simp [refB])
  have HG := hid (show rng (.node op set subs mn mx) = set.length + rngL subs by simp [rng])
  have HE := hid (show emptB (.node op set subs mn mx) = emptA subs by rcases e3 with rfl | rfl <;> simp [emptB])
  have ln := cell_lt' k0
  rcases e3 with rfl | rfl
  all_goals
    go_enter Try.func41, Try.ntmps41
    go_wp2_with fail
    refine (noneOK w).mono ?_
    rintro e wn ⟨⟨pn, rfl, SN⟩, BN⟩
    have kn0 := (BN.out.cell (p := ⟨n, 0, none⟩) ln).trans k0
    have kn2 : wn.cell? ⟨n, 2, none⟩ = some (.slice ua subs.length uc) := by rw [BN.out.cell (p := ⟨n, 2, none⟩) ln]; exact k2
    go_wp2_with fail
    go_loopw [2, 3, 67] (fun v b i wr => ∃ (k : Nat) (p : Option Addr) (q : Nat) (em : Bool), k ≤ subs.length ∧ i = .int .i64 k ∧ v = .pointer p ∧ b = .bool em ∧ Hid (SetOK wr p q) ∧ q + rngL (subs.drop k) = rngL subs ∧ Hid ((em || emptA (subs.drop k)) = emptA subs) ∧ Hid (Below w.heap.size w wr)) (fun _ _ i _ => subs.length - (intOf i).toNat)
    case atStart => exact ⟨0, pn, 0, false, Nat.zero_le _, rfl, rfl, rfl, SN, by simp, rfl, BN⟩
    case round =>
      obtain ⟨k, p, q, em0, hk, rfl, rfl, rfl, HS, hq, HC, HB1⟩ := hrel
      by_cases hlt : k < subs.length
      · obtain ⟨ub, uo, rfl, hc⟩ := HP.out (by omega)
        have C0 := hid (below_next HB.out HB1.out)
        have c0 : wr.cell? ⟨ub, uo + k, none⟩ = some (.pointer (ps k)) := by
          have := hc k hlt
          rw [C0.out.cell (p := ⟨ub, uo + k, none⟩) (cell_lt' this)]; exact this
        have hrd := rngL_drop hlt
        clear hc
        go_wp2_with fail
        refine (HI.out k hlt wr C0).mono ?_
        rintro e w1 ⟨⟨p1, em, kn, rfl, R1, R2⟩, B1⟩
        have HB2 := hid (below_next HB1.out B1.out)
        cases kn
        · have HF := hid (show refB (.node _ set subs mn mx) = true by rw [HR.out]; exact refL_kid hlt (R1.out rfl))
          go_wp2_with fail
          go_ret3
          exact ⟨retFC_no HF.out, HB2⟩
        · have HS1 := hid (HS.out.below B1.out)
          have HS2 := hid (R2.out rfl).2
          have HEK := hid (R2.out rfl).1
          have HX := hid (show ((em0 || em) || emptA (subs.drop (k + 1))) = emptA subs by
            rw [← HC.out, emptA_drop hlt, HEK.out, Bool.or_assoc])
          clear R1 R2 HEK
          cases em0 <;> cases em
          all_goals
            go_wp2_with fail
            refine (unionOK p p1 q (rng (kid subs k)) w1 (by omega) HS1 HS2).mono ?_
            rintro e w2 ⟨⟨p2, rfl, S2⟩, B2⟩
            have HB3 := hid (below_next HB2.out B2.out)
            go_wp2_with fail
            go_roundw
            case rel => exact ⟨k + 1, p2, q + rng (kid subs k), _, hlt, by go_num, rfl, rfl, S2, by omega, HX, HB3⟩
            case measure => simp [intOf]; omega
      · have HX := hid (show em0 = emptB (.node _ set subs mn mx) by
          rw [HE.out, ← HC.out, List.drop_of_length_le (by omega)]; simp [emptA])
        have HSX := hid (HS.out.mono (show q ≤ rng (.node _ set subs mn mx) by rw [HG.out]; omega))
        go_wp2_with fail
        go_ret3
        exact ⟨retFC_yes HX.out HSX.out, HB1⟩
end Go.Proofs.Qxb6605195a
