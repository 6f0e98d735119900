import Derived.Test.Qxb6605195aWalkT
import Derived.Test.Qxb6605195aFirst2
import Derived.Test.Qxb6605195aLens4
import Derived.Test.Qxb6605195aBuild2
set_option maxRecDepth 100000
namespace Go.Proofs.Qxb6605195a
open Go.ChangeShapes Go.WideShapes Go.ChangeAt Go.RowKit Plain
set_option linter.unusedVariables false

/-- the law, plainly: what the last two regions decide -/
theorem law6 {t : Tr} {L : List Int} {na ok em kn : Bool} (ho : ordB t = true) (hs : refB t = false → small (raw t)) (hL : LenOf t na ok L) (h1 : kn = false → refB t = true) (h2 : kn = true → em = emptB t) :
    (ok = false → refB t = false → 256 ≤ raw t) ∧ (ok = true → kn = true ∧ em = decide (0 ∈ L)) := by
  refine ⟨fun h hr => ?_, fun h => ?_⟩
  · subst h; exact lenOf_no hL hr (hs hr)
  · subst h
    obtain ⟨hr, _, hE⟩ := lenOf_yes hL
    have hk : kn = true := by
      cases kn with
      | true => rfl
      | false => rw [h1 rfl] at hr; cases hr
    refine ⟨hk, ?_⟩
    rw [h2 hk, hE (hs hr)]
    have := zero_lens t ho hr
    cases he : emptB t with
    | true => rw [he] at this; simp [this]
    | false => rw [he] at this; simp [this]

theorem small_sat {n : Nat} {x : Int} (hx : x = (sat n : Nat)) (h : ¬ 1073741824 < x) : small n := by
  unfold small
  have : sat n ≤ 1073741824 := by omega
  unfold sat at this
  omega
theorem sat_256 {n : Nat} {x : Int} (hx : x = (sat n : Nat)) (h : 256 ≤ n) : 256 ≤ x := by
  have : 256 ≤ sat n := by unfold sat; omega
  omega

set_option maxHeartbeats 4000000 in
theorem main6 {W : World} {a : Option Addr} {t : Tr} (h : Hid (TreeAt W a t)) : Calls Try.prog 6 #[.pointer a] W fun e W' => e = .returned (.bool true) ∧ Hid (Below W.heap.size W W') := by
  go_enter Try.func6, Try.ntmps6
  go_wp2_with fail
  refine (walk_any h.out true 4096 W (Below.refl _ _)).mono ?_
  rintro e w1 ⟨⟨v1, c1, r1, s1, ok1, rfl, K1⟩, B1⟩
  have hz1 := B1.out.size
  cases ok1
  · go_wp2_with fail
    go_ret
    exact ⟨rfl, B1.out.alloc hz1 _⟩
  · have G1 := hid (K1.out rfl).1
    clear K1
    have D1 := hid (B1.out.alloc hz1 (Obj.cells #[Value.int IntKind.i64 v1, Value.int IntKind.i64 c1, Value.int IntKind.i64 r1, Value.int IntKind.i64 s1] 41))
    go_upto_region 4 with fail
    obtain ⟨wa, hwa⟩ : ∃ x, x = w1.alloc (Obj.cells #[Value.int IntKind.i64 v1, Value.int IntKind.i64 c1, Value.int IntKind.i64 r1, Value.int IntKind.i64 s1] 41) := ⟨_, rfl⟩
    rw [← hwa] at D1 ⊢
    clear hwa
    go_wp2_with fail
    refine (walk_any h.out false 4096 wa D1).mono ?_
    rintro e w2 ⟨⟨v2, c2, r2, s2, ok2, rfl, K2⟩, B2⟩
    have D2 := hid (below_next D1.out B2.out)
    have hz2 := D2.out.size
    cases ok2
    · go_wp2_with fail
      go_ret
      exact ⟨rfl, D2.out.alloc hz2 _⟩
    · have K2' := K2.out rfl
      have G2 := hid K2'.1
      have R2 := hid K2'.2.1
      clear K2 K2'
      by_cases hr : r2 ≤ 4096
      · have HR := hid (show rng t ≤ 4096 by have := R2.out; omega)
        have D3 := hid (D2.out.alloc hz2 (Obj.cells #[Value.int IntKind.i64 v2, Value.int IntKind.i64 c2, Value.int IntKind.i64 r2, Value.int IntKind.i64 s2] 41))
        go_upto_region 7 with fail
        obtain ⟨wb, hwb⟩ : ∃ x, x = w2.alloc (Obj.cells #[Value.int IntKind.i64 v2, Value.int IntKind.i64 c2, Value.int IntKind.i64 r2, Value.int IntKind.i64 s2] 41) := ⟨_, rfl⟩
        rw [← hwb] at D3 ⊢
        clear hwb
        go_wp2_with fail
        refine (ordered_any h.out wb D3 G1).mono ?_
        rintro e w4 ⟨rfl, B4⟩
        have D4 := hid (below_next D3.out B4.out)
        obtain ⟨ob, hob⟩ : ∃ x, x = ordB t := ⟨_, rfl⟩
        rw [← hob]
        cases ob
        · clear hob
          go_wp2_with fail
          go_ret
          exact ⟨rfl, D4⟩
        · have HOR := hid hob.symm
          clear hob
          go_wp2_with fail
          refine (refuses_any h.out w4 D4 G1).mono ?_
          rintro e w5 ⟨rfl, B5⟩
          have D5 := hid (below_next D4.out B5.out)
          obtain ⟨rb, hrb⟩ : ∃ x, x = refB t := ⟨_, rfl⟩
          rw [← hrb]
          have HRB := hid hrb
          clear hrb
          go_upto_region 10 with fail
          go_cut [44] from 38 to 44 (fun c wx => ∃ cb, c = .bool cb ∧ Hid (cb = false → refB t = false → small (raw t)) ∧ Hid (Below W.heap.size W wx))
          case first =>
            cases rb
            · go_wp2_with fail
              refine (bound_any h.out w5 D5 G1).mono ?_
              rintro e w6 ⟨hs, B6⟩
              have D6 := hid (below_next D5.out B6.out)
              unfold RetSat at hs
              obtain ⟨x, hx⟩ : ∃ x : Int, x = (sat (raw t) : Nat) := ⟨_, rfl⟩
              rw [← hx] at hs
              subst hs
              have HX := hid hx
              clear hx
              by_cases hb : 1073741824 < x
              · go_wp2_with fail
                go_meet
                exact ⟨true, by simp, fun h => (by cases h), D6⟩
              · have HS := hid (small_sat HX.out hb)
                go_wp2_with fail
                go_meet
                exact ⟨false, by first | rfl | (simp [hb]) | (simp; omega), fun _ _ => HS.out, D6⟩
            · go_wp2_with fail
              go_meet
              exact ⟨false, rfl, fun _ h => (by rw [← HRB.out] at h; cases h), D5⟩
          case rest =>
            obtain ⟨cb, rfl, HS, D6⟩ := hcut
            obtain ⟨w6, hw6⟩ : ∃ w6, w6 = wc := ⟨_, rfl⟩
            subst hw6
            cases cb
            · have HS' := hid (HS.out rfl)
              clear HS
              go_wp2_with fail
              refine (cloneTree_any h.out w6 D6 G1).mono ?_
              rintro e w7 ⟨⟨a7, rfl, S7⟩, B7⟩
              have D7 := hid (below_next D6.out B7.out)
              have T7 := hid S7.out.now
              clear S7
              go_wp2_with fail
              refine (build_any T7.out w7 (Below.refl _ _) G1).mono ?_
              rintro e w8 ⟨⟨a8, rfl, S8⟩, B8⟩
              have D8 := hid (below_next D7.out B8.out)
              have N8 := hid S8.out.now
              clear S8
              go_wp2_with fail
              refine (zlengths_any N8 G1 w8 (Below.refl _ _)).mono ?_
              rintro e w9 ⟨⟨a9, L, c9, ok, rfl, I9, _, LO⟩, B9⟩
              have D9 := hid (below_next D8.out B9.out)
              go_wp2_with fail
              refine (zfirst_any N8 G2 HR w9 B9).mono ?_
              rintro e w10 ⟨⟨p10, em, kn, rfl, F1, F2⟩, B10⟩
              have D10 := hid (below_next D9.out B10.out)
              have C10 := hid (below_next B8.out (below_next B9.out B10.out))
              have LAW := hid (law6 HOR.out HS'.out LO.out F1.out (fun h => (F2.out h).1))
              cases ok
              · cases rb
                · have H256 := hid (LAW.out.1 rfl HRB.out.symm)
                  go_wp2_with fail
                  refine (bound_any T7.out w10 C10 G1).mono ?_
                  rintro e w11 ⟨hs, B11⟩
                  have D11 := hid (below_next D10.out B11.out)
                  unfold RetSat at hs
                  obtain ⟨x, hx⟩ : ∃ x : Int, x = (sat (raw t) : Nat) := ⟨_, rfl⟩
                  rw [← hx] at hs
                  subst hs
                  have hge : 256 ≤ x := sat_256 hx H256.out
                  clear hx
                  go_wp2_with fail
                  go_ret
                  exact ⟨ret_bool (by simp), D11⟩
                · go_wp2_with fail
                  go_ret
                  exact ⟨rfl, D10⟩
              · obtain ⟨hkn, hem⟩ := LAW.out.2 rfl
                subst hkn
                have HL := (lenOf_yes LO.out).2.1
                have I10 := hid (I9.out.below B10.out)
                have HEM := hid hem
                clear hem
                go_wp2_with fail
                refine (hasZero_any a9 c9 L w10 (by omega) I10).mono ?_
                rintro e w11 ⟨rfl, B11⟩
                have D11 := hid (below_next D10.out B11.out)
                rw [← HEM.out]
                cases em
                · go_wp2_with fail
                  go_ret
                  exact ⟨rfl, D11⟩
                · go_wp2_with fail
                  go_ret
                  exact ⟨rfl, D11⟩
            · go_wp2_with fail
              go_ret
              exact ⟨rfl, D6⟩
      · go_wp2_with fail
        go_ret
        exact ⟨rfl, D2.out.alloc hz2 _⟩
end Go.Proofs.Qxb6605195a
