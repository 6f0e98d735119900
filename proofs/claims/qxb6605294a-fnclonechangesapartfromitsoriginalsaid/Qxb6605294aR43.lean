import Derived.Test.Qxb6605294aEnd
import Derived.Test.Qxb6605294aMain6a
set_option maxRecDepth 100000
namespace Go.Proofs.Qxb6605294a
open Go.ChangeShapes Go.WideShapes Go.ChangeAt Go.RowKit
set_option linter.unusedVariables false

/-- the region of number id -/
def findR (id : Nat) : Code → Option Code
  | .region i ops b => if i = id then some (.region i ops b) else none
  | .seq a b => match findR id a with
    | some c => some c
    | none => findR id b
  | .block _ c => findR id c
  | .loop c => findR id c
  | .scope c => findR id c
  | .cond _ a b => match findR id a with
    | some c => some c
    | none => findR id b
  | _ => none
noncomputable def code43 : Code := (Try.f6.body.bind (findR 43)).getD .skip
set_option maxHeartbeats 4000000 in
theorem region43 (a : Act) (w W : World) (Q : Exit → Act → World → Prop) (c k jj b off n0 c0 b2 off2 n1 c1 b3 off3 ci b4 off4 ci2 L : Nat) (x y : Int) (hsz : a.tmps.size = 618)
    (h24 : a.eval (.tmp 24) = .pointer (some ⟨c, 0, none⟩)) (h35 : a.eval (.tmp 35) = .int .i64 (k : Int)) (h36 : a.eval (.tmp 36) = .int .i64 (jj : Int)) (h0 : a.eval (.tmp 0) = .slice (some ⟨b, off, none⟩) n0 c0) (h1 : a.eval (.tmp 1) = .slice (some ⟨b2, off2, none⟩) n1 c1)
    (hk0 : k < n0) (hk1 : k < n1) (hj : jj < L) (hn0 : n0 ≤ 1048576) (hn1 : n1 ≤ 1048576) (hL : L ≤ 1048576)
    (e1 : w.cell? ⟨b, off + k, none⟩ = some (.slice (some ⟨b3, off3, none⟩) L ci)) (e2 : w.cell? ⟨b2, off2 + k, none⟩ = some (.slice (some ⟨b4, off4, none⟩) L ci2)) (q1 : w.cell? ⟨b3, off3 + jj, none⟩ = some (.int .i64 x)) (q2 : w.cell? ⟨b4, off4 + jj, none⟩ = some (.int .i64 y))
    (hcall : Calls Try.prog 44 #[.pointer (some ⟨c, 0, none⟩), .int .i64 (k : Int), .int .i64 (jj : Int), .int .i64 (bits BinOp.xor IntKind.i64 (-1) x), .int .i64 (bits BinOp.xor IntKind.i64 (-1) y)] w.drew fun e w' => e = .returned (.tuple #[]) ∧ w' = W)
    (hdone : ∀ v, Q .normal ((((((((((((((((((((a.put (some 244) (.pointer (some ⟨c, 0, none⟩))).put (some 245) (.int .i64 (k : Int))).put (some 246) (.int .i64 (jj : Int))).put (some 247) (.slice (some ⟨b, off, none⟩) n0 c0)).put (some 248) (.int .i64 (k : Int))).put (some 249) (.pointer (some ⟨b, off + k, none⟩))).put (some 250) (.slice (some ⟨b3, off3, none⟩) L ci)).put (some 251) (.int .i64 (jj : Int))).put (some 252) (.pointer (some ⟨b3, off3 + jj, none⟩))).put (some 253) (.int .i64 x)).put (some 254) (.int .i64 (bits BinOp.xor IntKind.i64 (-1) x))).put (some 255) (.slice (some ⟨b2, off2, none⟩) n1 c1)).put (some 256) (.int .i64 (k : Int))).put (some 257) (.pointer (some ⟨b2, off2 + k, none⟩))).put (some 258) (.slice (some ⟨b4, off4, none⟩) L ci2)).put (some 259) (.int .i64 (jj : Int))).put (some 260) (.pointer (some ⟨b4, off4 + jj, none⟩))).put (some 261) (.int .i64 y)).put (some 262) (.int .i64 (bits BinOp.xor IntKind.i64 (-1) y))).put (some 263) v) W) :
    Code.wp Try.prog code43 Q a w := by
  conv => arg 2; whnf
  refine region_end (N := 19) (by kernel_rfl) (by kernel_rfl) rfl (by kernel_rfl) (frL a 244 20) _ (frL_base a 244 20) (fun i => match i with
  | 0 => .pointer (some ⟨c, 0, none⟩)
  | 1 => .int .i64 (k : Int)
  | 2 => .int .i64 (jj : Int)
  | 3 => .slice (some ⟨b, off, none⟩) n0 c0
  | 4 => .int .i64 (k : Int)
  | 5 => .pointer (some ⟨b, off + k, none⟩)
  | 6 => .slice (some ⟨b3, off3, none⟩) L ci
  | 7 => .int .i64 (jj : Int)
  | 8 => .pointer (some ⟨b3, off3 + jj, none⟩)
  | 9 => .int .i64 x
  | 10 => .int .i64 (bits BinOp.xor IntKind.i64 (-1) x)
  | 11 => .slice (some ⟨b2, off2, none⟩) n1 c1
  | 12 => .int .i64 (k : Int)
  | 13 => .pointer (some ⟨b2, off2 + k, none⟩)
  | 14 => .slice (some ⟨b4, off4, none⟩) L ci2
  | 15 => .int .i64 (jj : Int)
  | 16 => .pointer (some ⟨b4, off4 + jj, none⟩)
  | 17 => .int .i64 y
  | 18 => .int .i64 (bits BinOp.xor IntKind.i64 (-1) y)
  | _ => undef) (fun v w' => v = .tuple #[] ∧ w' = W) ?_ ?_ ?_ ?_
  · intro i hi u v
    match i, hi with
    | 0, _ => exact frL_put (lo := 244) (i := 0) u v (by omega) (by omega)
    | 1, _ => exact frL_put (lo := 244) (i := 1) u v (by omega) (by omega)
    | 2, _ => exact frL_put (lo := 244) (i := 2) u v (by omega) (by omega)
    | 3, _ => exact frL_put (lo := 244) (i := 3) u v (by omega) (by omega)
    | 4, _ => exact frL_put (lo := 244) (i := 4) u v (by omega) (by omega)
    | 5, _ => exact frL_put (lo := 244) (i := 5) u v (by omega) (by omega)
    | 6, _ => exact frL_put (lo := 244) (i := 6) u v (by omega) (by omega)
    | 7, _ => exact frL_put (lo := 244) (i := 7) u v (by omega) (by omega)
    | 8, _ => exact frL_put (lo := 244) (i := 8) u v (by omega) (by omega)
    | 9, _ => exact frL_put (lo := 244) (i := 9) u v (by omega) (by omega)
    | 10, _ => exact frL_put (lo := 244) (i := 10) u v (by omega) (by omega)
    | 11, _ => exact frL_put (lo := 244) (i := 11) u v (by omega) (by omega)
    | 12, _ => exact frL_put (lo := 244) (i := 12) u v (by omega) (by omega)
    | 13, _ => exact frL_put (lo := 244) (i := 13) u v (by omega) (by omega)
    | 14, _ => exact frL_put (lo := 244) (i := 14) u v (by omega) (by omega)
    | 15, _ => exact frL_put (lo := 244) (i := 15) u v (by omega) (by omega)
    | 16, _ => exact frL_put (lo := 244) (i := 16) u v (by omega) (by omega)
    | 17, _ => exact frL_put (lo := 244) (i := 17) u v (by omega) (by omega)
    | 18, _ => exact frL_put (lo := 244) (i := 18) u v (by omega) (by omega)
    | 19, _ => exact frL_put (lo := 244) (i := 19) u v (by omega) (by omega)
    | i + 20, h => exact absurd h (by simp)
  · intro i o hi ho u hd K hK
    match i, hi, ho with
    | 0, _, ho =>
      cases ho
      have e24 : (frL a 244 20 u).eval (.tmp 24) = .pointer (some ⟨c, 0, none⟩) := (frL_out u (by omega) (by omega)).trans h24
      have f24 : (frL a 244 20 u).tmps.getD 24 undef = .pointer (some ⟨c, 0, none⟩) := e24
      exact step_value rfl (v := .pointer (some ⟨c, 0, none⟩)) (w' := w.drew) (by clear hd hK; first | (go_simp; done) | (go_simp; rfl)) hK
    | 1, _, ho =>
      cases ho
      have e35 : (frL a 244 20 u).eval (.tmp 35) = .int .i64 (k : Int) := (frL_out u (by omega) (by omega)).trans h35
      have f35 : (frL a 244 20 u).tmps.getD 35 undef = .int .i64 (k : Int) := e35
      exact step_value rfl (v := .int .i64 (k : Int)) (w' := w.drew) (by clear hd hK; first | (go_simp; done) | (go_simp; rfl)) hK
    | 2, _, ho =>
      cases ho
      have e36 : (frL a 244 20 u).eval (.tmp 36) = .int .i64 (jj : Int) := (frL_out u (by omega) (by omega)).trans h36
      have f36 : (frL a 244 20 u).tmps.getD 36 undef = .int .i64 (jj : Int) := e36
      exact step_value rfl (v := .int .i64 (jj : Int)) (w' := w.drew) (by clear hd hK; first | (go_simp; done) | (go_simp; rfl)) hK
    | 3, _, ho =>
      cases ho
      have e0 : (frL a 244 20 u).eval (.tmp 0) = .slice (some ⟨b, off, none⟩) n0 c0 := (frL_out u (by omega) (by omega)).trans h0
      have f0 : (frL a 244 20 u).tmps.getD 0 undef = .slice (some ⟨b, off, none⟩) n0 c0 := e0
      exact step_value rfl (v := .slice (some ⟨b, off, none⟩) n0 c0) (w' := w.drew) (by clear hd hK; first | (go_simp; done) | (go_simp; rfl)) hK
    | 4, _, ho =>
      cases ho
      have e35 : (frL a 244 20 u).eval (.tmp 35) = .int .i64 (k : Int) := (frL_out u (by omega) (by omega)).trans h35
      have f35 : (frL a 244 20 u).tmps.getD 35 undef = .int .i64 (k : Int) := e35
      exact step_value rfl (v := .int .i64 (k : Int)) (w' := w.drew) (by clear hd hK; first | (go_simp; done) | (go_simp; rfl)) hK
    | 5, _, ho =>
      cases ho
      have e247 : (frL a 244 20 u).eval (.tmp 247) = .slice (some ⟨b, off, none⟩) n0 c0 := (frL_in u 3 (by omega) rfl (by omega)).trans (hd 3 (of_decide_eq_true (by kernel_rfl)))
      have f247 : (frL a 244 20 u).tmps.getD 247 undef = .slice (some ⟨b, off, none⟩) n0 c0 := e247
      have e248 : (frL a 244 20 u).eval (.tmp 248) = .int .i64 (k : Int) := (frL_in u 4 (by omega) rfl (by omega)).trans (hd 4 (of_decide_eq_true (by kernel_rfl)))
      have f248 : (frL a 244 20 u).tmps.getD 248 undef = .int .i64 (k : Int) := e248
      exact step_value rfl (v := .pointer (some ⟨b, off + k, none⟩)) (w' := w.drew) (by clear hd hK; first | (go_simp; done) | (go_simp; rfl)) hK
    | 6, _, ho =>
      cases ho
      have e249 : (frL a 244 20 u).eval (.tmp 249) = .pointer (some ⟨b, off + k, none⟩) := (frL_in u 5 (by omega) rfl (by omega)).trans (hd 5 (of_decide_eq_true (by kernel_rfl)))
      have f249 : (frL a 244 20 u).tmps.getD 249 undef = .pointer (some ⟨b, off + k, none⟩) := e249
      exact step_value rfl (v := .slice (some ⟨b3, off3, none⟩) L ci) (w' := w.drew) (by clear hd hK; first | (go_simp; done) | (go_simp; rfl)) hK
    | 7, _, ho =>
      cases ho
      have e36 : (frL a 244 20 u).eval (.tmp 36) = .int .i64 (jj : Int) := (frL_out u (by omega) (by omega)).trans h36
      have f36 : (frL a 244 20 u).tmps.getD 36 undef = .int .i64 (jj : Int) := e36
      exact step_value rfl (v := .int .i64 (jj : Int)) (w' := w.drew) (by clear hd hK; first | (go_simp; done) | (go_simp; rfl)) hK
    | 8, _, ho =>
      cases ho
      have e250 : (frL a 244 20 u).eval (.tmp 250) = .slice (some ⟨b3, off3, none⟩) L ci := (frL_in u 6 (by omega) rfl (by omega)).trans (hd 6 (of_decide_eq_true (by kernel_rfl)))
      have f250 : (frL a 244 20 u).tmps.getD 250 undef = .slice (some ⟨b3, off3, none⟩) L ci := e250
      have e251 : (frL a 244 20 u).eval (.tmp 251) = .int .i64 (jj : Int) := (frL_in u 7 (by omega) rfl (by omega)).trans (hd 7 (of_decide_eq_true (by kernel_rfl)))
      have f251 : (frL a 244 20 u).tmps.getD 251 undef = .int .i64 (jj : Int) := e251
      exact step_value rfl (v := .pointer (some ⟨b3, off3 + jj, none⟩)) (w' := w.drew) (by clear hd hK; first | (go_simp; done) | (go_simp; rfl)) hK
    | 9, _, ho =>
      cases ho
      have e252 : (frL a 244 20 u).eval (.tmp 252) = .pointer (some ⟨b3, off3 + jj, none⟩) := (frL_in u 8 (by omega) rfl (by omega)).trans (hd 8 (of_decide_eq_true (by kernel_rfl)))
      have f252 : (frL a 244 20 u).tmps.getD 252 undef = .pointer (some ⟨b3, off3 + jj, none⟩) := e252
      exact step_value rfl (v := .int .i64 x) (w' := w.drew) (by clear hd hK; first | (go_simp; done) | (go_simp; rfl)) hK
    | 10, _, ho =>
      cases ho
      have e253 : (frL a 244 20 u).eval (.tmp 253) = .int .i64 x := (frL_in u 9 (by omega) rfl (by omega)).trans (hd 9 (of_decide_eq_true (by kernel_rfl)))
      have f253 : (frL a 244 20 u).tmps.getD 253 undef = .int .i64 x := e253
      exact step_value rfl (v := .int .i64 (bits BinOp.xor IntKind.i64 (-1) x)) (w' := w.drew) (by clear hd hK; first | (go_simp; done) | (go_simp; rfl)) hK
    | 11, _, ho =>
      cases ho
      have e1 : (frL a 244 20 u).eval (.tmp 1) = .slice (some ⟨b2, off2, none⟩) n1 c1 := (frL_out u (by omega) (by omega)).trans h1
      have f1 : (frL a 244 20 u).tmps.getD 1 undef = .slice (some ⟨b2, off2, none⟩) n1 c1 := e1
      exact step_value rfl (v := .slice (some ⟨b2, off2, none⟩) n1 c1) (w' := w.drew) (by clear hd hK; first | (go_simp; done) | (go_simp; rfl)) hK
    | 12, _, ho =>
      cases ho
      have e35 : (frL a 244 20 u).eval (.tmp 35) = .int .i64 (k : Int) := (frL_out u (by omega) (by omega)).trans h35
      have f35 : (frL a 244 20 u).tmps.getD 35 undef = .int .i64 (k : Int) := e35
      exact step_value rfl (v := .int .i64 (k : Int)) (w' := w.drew) (by clear hd hK; first | (go_simp; done) | (go_simp; rfl)) hK
    | 13, _, ho =>
      cases ho
      have e255 : (frL a 244 20 u).eval (.tmp 255) = .slice (some ⟨b2, off2, none⟩) n1 c1 := (frL_in u 11 (by omega) rfl (by omega)).trans (hd 11 (of_decide_eq_true (by kernel_rfl)))
      have f255 : (frL a 244 20 u).tmps.getD 255 undef = .slice (some ⟨b2, off2, none⟩) n1 c1 := e255
      have e256 : (frL a 244 20 u).eval (.tmp 256) = .int .i64 (k : Int) := (frL_in u 12 (by omega) rfl (by omega)).trans (hd 12 (of_decide_eq_true (by kernel_rfl)))
      have f256 : (frL a 244 20 u).tmps.getD 256 undef = .int .i64 (k : Int) := e256
      exact step_value rfl (v := .pointer (some ⟨b2, off2 + k, none⟩)) (w' := w.drew) (by clear hd hK; first | (go_simp; done) | (go_simp; rfl)) hK
    | 14, _, ho =>
      cases ho
      have e257 : (frL a 244 20 u).eval (.tmp 257) = .pointer (some ⟨b2, off2 + k, none⟩) := (frL_in u 13 (by omega) rfl (by omega)).trans (hd 13 (of_decide_eq_true (by kernel_rfl)))
      have f257 : (frL a 244 20 u).tmps.getD 257 undef = .pointer (some ⟨b2, off2 + k, none⟩) := e257
      exact step_value rfl (v := .slice (some ⟨b4, off4, none⟩) L ci2) (w' := w.drew) (by clear hd hK; first | (go_simp; done) | (go_simp; rfl)) hK
    | 15, _, ho =>
      cases ho
      have e36 : (frL a 244 20 u).eval (.tmp 36) = .int .i64 (jj : Int) := (frL_out u (by omega) (by omega)).trans h36
      have f36 : (frL a 244 20 u).tmps.getD 36 undef = .int .i64 (jj : Int) := e36
      exact step_value rfl (v := .int .i64 (jj : Int)) (w' := w.drew) (by clear hd hK; first | (go_simp; done) | (go_simp; rfl)) hK
    | 16, _, ho =>
      cases ho
      have e258 : (frL a 244 20 u).eval (.tmp 258) = .slice (some ⟨b4, off4, none⟩) L ci2 := (frL_in u 14 (by omega) rfl (by omega)).trans (hd 14 (of_decide_eq_true (by kernel_rfl)))
      have f258 : (frL a 244 20 u).tmps.getD 258 undef = .slice (some ⟨b4, off4, none⟩) L ci2 := e258
      have e259 : (frL a 244 20 u).eval (.tmp 259) = .int .i64 (jj : Int) := (frL_in u 15 (by omega) rfl (by omega)).trans (hd 15 (of_decide_eq_true (by kernel_rfl)))
      have f259 : (frL a 244 20 u).tmps.getD 259 undef = .int .i64 (jj : Int) := e259
      exact step_value rfl (v := .pointer (some ⟨b4, off4 + jj, none⟩)) (w' := w.drew) (by clear hd hK; first | (go_simp; done) | (go_simp; rfl)) hK
    | 17, _, ho =>
      cases ho
      have e260 : (frL a 244 20 u).eval (.tmp 260) = .pointer (some ⟨b4, off4 + jj, none⟩) := (frL_in u 16 (by omega) rfl (by omega)).trans (hd 16 (of_decide_eq_true (by kernel_rfl)))
      have f260 : (frL a 244 20 u).tmps.getD 260 undef = .pointer (some ⟨b4, off4 + jj, none⟩) := e260
      exact step_value rfl (v := .int .i64 y) (w' := w.drew) (by clear hd hK; first | (go_simp; done) | (go_simp; rfl)) hK
    | 18, _, ho =>
      cases ho
      have e261 : (frL a 244 20 u).eval (.tmp 261) = .int .i64 y := (frL_in u 17 (by omega) rfl (by omega)).trans (hd 17 (of_decide_eq_true (by kernel_rfl)))
      have f261 : (frL a 244 20 u).tmps.getD 261 undef = .int .i64 y := e261
      exact step_value rfl (v := .int .i64 (bits BinOp.xor IntKind.i64 (-1) y)) (w' := w.drew) (by clear hd hK; first | (go_simp; done) | (go_simp; rfl)) hK
    | i + 19, h, _ => exact absurd h (by omega)
  · intro o ho u hu K hK
    cases ho
    have e244 : (frL a 244 20 u).tmps.getD 244 undef = .pointer (some ⟨c, 0, none⟩) := (frL_in u 0 (by omega) rfl (by omega)).trans (hu 0 (by omega))
    have e245 : (frL a 244 20 u).tmps.getD 245 undef = .int .i64 (k : Int) := (frL_in u 1 (by omega) rfl (by omega)).trans (hu 1 (by omega))
    have e246 : (frL a 244 20 u).tmps.getD 246 undef = .int .i64 (jj : Int) := (frL_in u 2 (by omega) rfl (by omega)).trans (hu 2 (by omega))
    have e254 : (frL a 244 20 u).tmps.getD 254 undef = .int .i64 (bits BinOp.xor IntKind.i64 (-1) x) := (frL_in u 10 (by omega) rfl (by omega)).trans (hu 10 (by omega))
    have e262 : (frL a 244 20 u).tmps.getD 262 undef = .int .i64 (bits BinOp.xor IntKind.i64 (-1) y) := (frL_in u 18 (by omega) rfl (by omega)).trans (hu 18 (by omega))
    refine step_enter rfl (f := 44) (args := #[.pointer (some ⟨c, 0, none⟩), .int .i64 (k : Int), .int .i64 (jj : Int), .int .i64 (bits BinOp.xor IntKind.i64 (-1) x), .int .i64 (bits BinOp.xor IntKind.i64 (-1) y)]) (by clear hK hu; go_simp) hcall ?_
    rintro e w' ⟨rfl, rfl⟩
    exact ⟨_, rfl, hK _ _ ⟨rfl, rfl⟩⟩
  · rintro u w2 hu ⟨hv, rfl⟩
    have := hdone (u 19)
    rw [frL_succ a 244 19 u (by omega), frL_succ a 244 18 u (by omega), frL_succ a 244 17 u (by omega), frL_succ a 244 16 u (by omega), frL_succ a 244 15 u (by omega), frL_succ a 244 14 u (by omega), frL_succ a 244 13 u (by omega), frL_succ a 244 12 u (by omega), frL_succ a 244 11 u (by omega), frL_succ a 244 10 u (by omega), frL_succ a 244 9 u (by omega), frL_succ a 244 8 u (by omega), frL_succ a 244 7 u (by omega), frL_succ a 244 6 u (by omega), frL_succ a 244 5 u (by omega), frL_succ a 244 4 u (by omega), frL_succ a 244 3 u (by omega), frL_succ a 244 2 u (by omega), frL_succ a 244 1 u (by omega), frL_succ a 244 0 u (by omega), frL_zero]
    rw [hu 0 (by omega), hu 1 (by omega), hu 2 (by omega), hu 3 (by omega), hu 4 (by omega), hu 5 (by omega), hu 6 (by omega), hu 7 (by omega), hu 8 (by omega), hu 9 (by omega), hu 10 (by omega), hu 11 (by omega), hu 12 (by omega), hu 13 (by omega), hu 14 (by omega), hu 15 (by omega), hu 16 (by omega), hu 17 (by omega), hu 18 (by omega)]
    exact this
end Go.Proofs.Qxb6605294a
