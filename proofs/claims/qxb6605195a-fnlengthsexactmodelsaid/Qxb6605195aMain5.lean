import Derived.Test.Qxb6605195aWalkT
import Derived.Test.Qxb6605195aLens4
import Derived.Test.Qxb6605195aLset
set_option maxRecDepth 100000
namespace Go.Proofs.Qxb6605195a
open Go.ChangeShapes Go.WideShapes Go.ChangeAt Go.RowKit Plain
set_option linter.unusedVariables false

theorem eqNil47 (a : Option Addr) (n c : Nat) (w : World) : (binOp .eql 47 (.slice a n c) (.slice none 0 0)).run Try.prog w = .ok (.bool a.isNone) w := Lib.run_eql_slice_nil w 47 3 a n c 0 0 Try.underlying47
theorem sat_small {n : Nat} {x : Int} (hx : x = (sat n : Nat)) (h : ¬ 1073741824 < x) : small n := by
  unfold small
  have : sat n ≤ 1073741824 := by omega
  unfold sat at this
  omega
theorem sat_big {n : Nat} {x : Int} (hx : x = (sat n : Nat)) (h : 256 ≤ n) : 256 ≤ x := by
  have : 256 ≤ sat n := by unfold sat; omega
  omega
theorem lens_len {t : Tr} (hs : small (raw t)) : (lens t).length ≤ 1000000000000 := by
  have := upto_len (lens_ok t).1 (lens_ok t).2
  unfold small at hs
  omega

set_option maxHeartbeats 4000000 in
theorem main5 {W : World} {a : Option Addr} {t : Tr} (h : Hid (TreeAt W a t)) : Calls Try.prog 5 #[.pointer a] W fun e W' => e = .returned (.bool true) ∧ Hid (Below W.heap.size W W') := by
  have hnl := eqNil47
  go_enter Try.func5, Try.ntmps5
  go_wp2_with fail
  refine (walk_any h.out true 4096 W (Below.refl _ _)).mono ?_
  rintro e w1 ⟨⟨v1, c1, r1, s1, ok1, rfl, K1⟩, B1⟩
  have hz1 := B1.out.size
  cases ok1
  · go_wp2_with fail
    go_ret
    exact ⟨rfl, B1.out.alloc hz1 _⟩
  · have G1 := hid (K1.out rfl).1
    clear K1
    have D1 := hid (B1.out.alloc hz1 (Obj.cells #[Value.int IntKind.i64 v1, Value.int IntKind.i64 c1, Value.int IntKind.i64 r1, Value.int IntKind.i64 s1] 41))
    go_upto_region 4 with fail
    obtain ⟨wa, hwa⟩ : ∃ x, x = w1.alloc (Obj.cells #[Value.int IntKind.i64 v1, Value.int IntKind.i64 c1, Value.int IntKind.i64 r1, Value.int IntKind.i64 s1] 41) := ⟨_, rfl⟩
    rw [← hwa] at D1 ⊢
    clear hwa
    go_wp2_with fail
    refine (refuses_any h.out wa D1 G1).mono ?_
    rintro e w5 ⟨rfl, B5⟩
    have D5 := hid (below_next D1.out B5.out)
    obtain ⟨rb, hrb⟩ : ∃ x, x = refB t := ⟨_, rfl⟩
    rw [← hrb]
    have HRB := hid hrb
    clear hrb
    go_upto_region 5 with fail
    go_cut [23] from 17 to 23 (fun c wx => ∃ cb, c = .bool cb ∧ Hid (cb = false → refB t = false → small (raw t)) ∧ Hid (Below W.heap.size W wx))
    case first =>
      cases rb
      · go_wp2_with fail
        refine (bound_any h.out w5 D5 G1).mono ?_
        rintro e w6 ⟨hs, B6⟩
        have D6 := hid (below_next D5.out B6.out)
        unfold RetSat at hs
        obtain ⟨x, hx⟩ : ∃ x : Int, x = (sat (raw t) : Nat) := ⟨_, rfl⟩
        rw [← hx] at hs
        subst hs
        have HX := hid hx
        clear hx
        by_cases hb : 1073741824 < x
        · go_wp2_with fail
          go_meet
          exact ⟨true, by simp, fun h => (by cases h), D6⟩
        · have HS := hid (sat_small HX.out hb)
          go_wp2_with fail
          go_meet
          exact ⟨false, by first | rfl | (simp [hb]) | (simp; omega), fun _ _ => HS.out, D6⟩
      · go_wp2_with fail
        go_meet
        exact ⟨false, rfl, fun _ h => (by rw [← HRB.out] at h; cases h), D5⟩
    case rest =>
      obtain ⟨cb, rfl, HS, D6⟩ := hcut
      obtain ⟨w6, hw6⟩ : ∃ w6, w6 = wc := ⟨_, rfl⟩
      subst hw6
      cases cb
      · have HS' := hid (HS.out rfl)
        clear HS
        go_wp2_with fail
        refine (cloneTree_any h.out w6 D6 G1).mono ?_
        rintro e w7 ⟨⟨a7, rfl, S7⟩, B7⟩
        have D7 := hid (below_next D6.out B7.out)
        have T7 := hid S7.out.now
        clear S7
        go_wp2_with fail
        refine (build_any T7.out w7 (Below.refl _ _) G1).mono ?_
        rintro e w8 ⟨⟨a8, rfl, S8⟩, B8⟩
        have D8 := hid (below_next D7.out B8.out)
        have N8 := hid S8.out.now
        clear S8
        go_wp2_with fail
        refine (zlengths_any N8 G1 w8 (Below.refl _ _)).mono ?_
        rintro e w9 ⟨⟨a9, L, c9, ok, rfl, I9, N9, LO⟩, B9⟩
        have D9 := hid (below_next D8.out B9.out)
        have C9 := hid (below_next B8.out B9.out)
        cases rb
        · have HR0 := hid HRB.out.symm
          have HSM := hid (HS'.out HR0.out)
          cases ok
          · rcases (LO.out.2.2.1 HR0.out HSM.out).2 rfl with ⟨hna, hge⟩ | ⟨hna, hLe, hgt⟩
            · have HGE := hid hge
              clear hge
              go_wp2_with fail
              refine (bound_any T7.out w9 C9 G1).mono ?_
              rintro e w11 ⟨hs, B11⟩
              have D11 := hid (below_next D9.out B11.out)
              unfold RetSat at hs
              obtain ⟨x, hx⟩ : ∃ x : Int, x = (sat (raw t) : Nat) := ⟨_, rfl⟩
              rw [← hx] at hs
              subst hs
              have hge : 256 ≤ x := sat_big hx HGE.out
              clear hx
              go_wp2_with fail
              go_ret
              exact ⟨ret_bool (by simp), D11⟩
            · have HFT := hid (LO.out.2.2.2 HR0.out HSM.out (.inr hna))
              have hlen := lens_len HSM.out
              have HIL := lensSet_any T7.out G1 HR0 HSM HFT w9 C9
              rw [← hLe] at hlen HIL
              clear hLe
              have hg' : decide (256 < (L.length : Int)) = true := by simp; omega
              go_wp2_with fail
              refine HIL.mono ?_
              rintro e w10 ⟨⟨a10, c10, rfl, _, I10, _, _⟩, B10⟩
              have D10 := hid (below_next D9.out B10.out)
              have I9' := hid (I9.out.below B10.out)
              go_wp2_with fail
              refine (sameInts_yes a9 a10 c9 c10 L w10 hlen I9' I10).mono ?_
              rintro e w11 ⟨rfl, B11⟩
              have D11 := hid (below_next D10.out B11.out)
              go_wp2_with fail
              go_ret
              exact ⟨rfl, D11⟩
          · obtain ⟨_, hle, hE⟩ := lenOf_yes LO.out
            have hLe := hE HSM.out
            have HFT := hid (lenOf_fits LO.out HSM.out)
            have hlen := lens_len HSM.out
            have HIL := lensSet_any T7.out G1 HR0 HSM HFT w9 C9
            rw [← hLe] at hlen HIL
            clear hLe hE
            have hg' : decide ((L.length : Int) ≤ 256) = true := by simp; omega
            go_wp2_with fail
            refine HIL.mono ?_
            rintro e w10 ⟨⟨a10, c10, rfl, _, I10, _, _⟩, B10⟩
            have D10 := hid (below_next D9.out B10.out)
            have I9' := hid (I9.out.below B10.out)
            go_wp2_with fail
            refine (sameInts_yes a9 a10 c9 c10 L w10 hlen I9' I10).mono ?_
            rintro e w11 ⟨rfl, B11⟩
            have D11 := hid (below_next D10.out B11.out)
            go_wp2_with fail
            go_ret
            exact ⟨rfl, D11⟩
        · obtain ⟨hok, hna⟩ := LO.out.2.1 HRB.out.symm
          subst hok
          go_wp2_with fail
          go_ret
          exact ⟨by simp, D9⟩
      · go_wp2_with fail
        go_ret
        exact ⟨rfl, D6⟩
end Go.Proofs.Qxb6605195a
