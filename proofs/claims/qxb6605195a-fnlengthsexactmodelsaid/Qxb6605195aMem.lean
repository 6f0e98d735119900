import Derived.Test.Qxb6605195aRows
import Derived.Test.Qxb6605195aSweep
import Derived.WalkKit
import Derived.ProofKit
import Derived.OpenShut
import Derived.WalkSpells
import Derived.WalkLawsBesides
import Derived.Deep.QuietTactic
import Derived.BigQuiet
import Derived.Deep.RegionWith
import Derived.Deep.Cut
import Derived.Deep.CutRange
namespace Go.Proofs.Qxb6605195a
open Go.ChangeShapes Go.WideShapes Go.ChangeAt Go.RowKit Plain
set_option linter.unusedVariables false

theorem cell_lt' {w : World} {a : Addr} {v : Value} (h : w.cell? a = some v) : a.block < w.heap.size := by
  rcases Nat.lt_or_ge a.block w.heap.size with h' | h'
  · exact h'
  · simp [World.cell?, Array.getElem?_eq_none h'] at h

/-- a slice of pairs that is only read: its address where it has an element, and its cells -/
def PairRow (k : IntKind) (w : World) (a : Option Addr) (xs : List (Int × Int)) : Prop :=
  0 < xs.length → ∃ b off, a = some ⟨b, off, none⟩ ∧ ∀ i, i < xs.length → w.cell? ⟨b, off + i * 2, none⟩ = some (.int k (xs.getD i (0, 0)).1) ∧ w.cell? ⟨b, off + i * 2 + 1, none⟩ = some (.int k (xs.getD i (0, 0)).2)
theorem PairRow.below {k : IntKind} {w w' : World} {a : Option Addr} {xs : List (Int × Int)} (h : PairRow k w a xs) (hb : Below w.heap.size w w') : PairRow k w' a xs := by
  intro h0
  obtain ⟨b, off, e, hc⟩ := h h0
  refine ⟨b, off, e, fun i hi => ?_⟩
  obtain ⟨h1, h2⟩ := hc i hi
  exact ⟨by rw [hb.cell (cell_lt' h1)]; exact h1, by rw [hb.cell (cell_lt' h2)]; exact h2⟩

/-- the i-th pair, in whatever later world -/
theorem PairRow.get {k : IntKind} {w wr : World} {a : Option Addr} {xs : List (Int × Int)} (h : PairRow k w a xs) (hb : Below w.heap.size w wr) {i : Nat} (hi : i < xs.length) :
    ∃ b off lo hi, a = some ⟨b, off, none⟩ ∧ wr.cell? ⟨b, off + i * 2, none⟩ = some (.int k lo) ∧ wr.cell? ⟨b, off + i * 2 + 1, none⟩ = some (.int k hi) ∧ b < wr.heap.size ∧ Hid (xs.drop i = (lo, hi) :: xs.drop (i + 1)) ∧ Hid ((lo, hi) ∈ xs) := by
  obtain ⟨b, off, e, hc⟩ := h (by omega)
  obtain ⟨h1, h2⟩ := hc i hi
  have hbl := cell_lt' h1
  have he : xs.getD i (0, 0) = xs[i] := by rw [List.getD_eq_getElem?_getD, List.getElem?_eq_getElem hi]; rfl
  refine ⟨b, off, xs[i].1, xs[i].2, e, ?_, ?_, Nat.lt_of_lt_of_le hbl hb.size, ?_, ?_⟩
  · rw [hb.cell hbl, h1, he]
  · rw [hb.cell (cell_lt' h2), h2, he]
  · exact List.drop_eq_getElem_cons hi
  · exact List.getElem_mem hi

/-- all within 0 .. 0x10FFFF -/
def Dom (xs : List (Int × Int)) : Prop := ∀ r ∈ xs, 0 ≤ r.1 ∧ r.1 ≤ 1114111 ∧ 0 ≤ r.2 ∧ r.2 ≤ 1114111
def domB (xs : List (Int × Int)) : Bool := xs.all fun r => decide (0 ≤ r.1) && decide (r.1 ≤ 1114111) && decide (0 ≤ r.2) && decide (r.2 ≤ 1114111)

theorem domB_iff (xs : List (Int × Int)) : domB xs = true ↔ Dom xs := by
  simp only [domB, Dom, List.all_eq_true, Bool.and_eq_true, decide_eq_true_eq, and_assoc]
theorem domB_cons (r : Int × Int) (xs : List (Int × Int)) : domB (r :: xs) = ((decide (0 ≤ r.1) && decide (r.1 ≤ 1114111) && decide (0 ≤ r.2) && decide (r.2 ≤ 1114111)) && domB xs) := rfl
theorem ret_bool {a b : Bool} (h : a = b) : Ending.returned (.bool a) = .returned (.bool b) := by rw [h]

/-! ### the cells of a list of pairs -/
def flat (k : IntKind) (xs : List (Int × Int)) : List Value := xs.flatMap fun r => [.int k r.1, .int k r.2]
theorem flat_nil (k : IntKind) : flat k [] = [] := rfl
theorem flat_cons (k : IntKind) (r : Int × Int) (xs : List (Int × Int)) : flat k (r :: xs) = .int k r.1 :: .int k r.2 :: flat k xs := rfl
theorem flat_append (k : IntKind) (xs ys : List (Int × Int)) : flat k (xs ++ ys) = flat k xs ++ flat k ys := by simp [flat]
theorem flat_len (k : IntKind) (xs : List (Int × Int)) : (flat k xs).length = xs.length * 2 := by
  induction xs with
  | nil => rfl
  | cons r xs ih => rw [flat_cons, List.length_cons, List.length_cons, List.length_cons, ih]; omega
theorem flat_get (k : IntKind) (xs : List (Int × Int)) : ∀ i, i < xs.length → (flat k xs)[i * 2]? = some (.int k (xs.getD i (0, 0)).1) ∧ (flat k xs)[i * 2 + 1]? = some (.int k (xs.getD i (0, 0)).2) := by
  induction xs with
  | nil => intro i hi; simp at hi
  | cons r xs ih =>
    intro i hi
    rw [flat_cons]
    cases i with
    | zero => exact ⟨rfl, rfl⟩
    | succ i =>
      have := ih i (by simp at hi; omega)
      have e1 : (i + 1) * 2 = i * 2 + 1 + 1 := by omega
      rw [e1]
      simp only [List.getElem?_cons_succ, List.getD_cons_succ]
      exact this
theorem flat_one (k : IntKind) (xs : List (Int × Int)) : ∀ u ∈ flat k xs, u.oneCell' = true := by
  intro u hu
  simp only [flat, List.mem_flatMap] at hu
  obtain ⟨r, _, hu⟩ := hu
  simp at hu
  rcases hu with rfl | rfl <;> rfl

/-- what is owned, read as a row of pairs -/
theorem pairRow_own {k : IntKind} {w : World} {base : Nat} {e : TypeId} {v : Value} {xs : List (Int × Int)} (h : w.ownsRow base e 2 v xs.length (flat k xs)) :
    ∃ a cap, v = .slice a xs.length cap ∧ PairRow k w a xs ∧ xs.length ≤ cap ∧ (a = none → xs = [] ∧ cap = 0) := by
  obtain ⟨hl, ⟨rfl, h0⟩ | ⟨g, cap, cur, rfl, hb, hh, h1, h2, h3, h4⟩⟩ := h
  · exact ⟨none, 0, by rw [h0], fun h => by omega, by omega, fun _ => ⟨List.length_eq_zero_iff.mp h0, rfl⟩⟩
  · refine ⟨_, cap, rfl, fun _ => ⟨g, 0, rfl, fun i hi => ?_⟩, h1, by simp⟩
    have hc := flat_get k xs i hi
    have hin : ∀ j, j < xs.length * 2 → w.cell? ⟨g, j, none⟩ = (flat k xs)[j]? := by
      intro j hj
      simp only [World.cell?, hh]
      have : cur.toList[j]? = (flat k xs)[j]? := by
        rw [← h4, List.getElem?_take]; simp [hj]
      simpa using this
    rw [Nat.zero_add]
    exact ⟨by rw [hin _ (by omega)]; exact hc.1, by rw [hin _ (by omega)]; exact hc.2⟩

/-! ### rangesInDomain -/
set_option maxHeartbeats 1000000 in
theorem dom_any (a : Option Addr) (cap : Nat) (xs : List (Int × Int)) (w : World) (hm : xs.length ≤ 9223372036854775807) (hr : Hid (PairRow .i32 w a xs)) :
    Calls Try.prog 8 #[.slice a xs.length cap] w fun e w' => e = .returned (.bool (domB xs)) ∧ Below w.heap.size w w' := by
  go_enter Try.func8, Try.ntmps8
  go_wp2
  go_loopw [7] (fun i wr => ∃ k : Nat, k ≤ xs.length ∧ i = .int .i64 k ∧ Hid (Below w.heap.size w wr) ∧ Hid (domB xs = domB (xs.drop k))) (fun i _ => xs.length - (intOf i).toNat)
  case atStart => exact ⟨0, Nat.zero_le _, rfl, Below.refl _ _, rfl⟩
  case round =>
    obtain ⟨k, hk, rfl, HB, HD⟩ := hrel
    by_cases hlt : k < xs.length
    · obtain ⟨b, off, lo, hi, rfl, c1, c2, hbl, HX, HM⟩ := hr.out.get HB.out hlt
      have HB1 : Hid (Below w.heap.size w (wr.alloc (.cells #[.int .i32 lo, .int .i32 hi] 58))) := HB.out.alloc HB.out.size _
      have HE : Hid (domB xs = ((decide (0 ≤ lo) && decide (lo ≤ 1114111) && decide (0 ≤ hi) && decide (hi ≤ 1114111)) && domB (xs.drop (k + 1)))) := by
        show domB xs = _; rw [HD.out, HX.out, domB_cons]
      clear HB HD HX HM
      by_cases t1 : 0 ≤ lo
      · by_cases t2 : lo ≤ 1114111
        · by_cases t3 : 0 ≤ hi
          · by_cases t4 : hi ≤ 1114111
            · have HN : Hid (domB xs = domB (xs.drop (k + 1))) := by show domB xs = _; rw [HE.out]; simp [t1, t2, t3, t4]
              clear HE
              go_wp2
              go_roundw
              case rel => exact ⟨k + 1, hlt, by go_num, HB1, HN⟩
              case measure => simp [intOf]; omega
            · have HN : Hid (false = domB xs) := by show false = _; rw [HE.out]; simp [t4]
              clear HE
              go_wp2
              go_ret
              exact ⟨ret_bool HN.out, HB1.out⟩
          · have HN : Hid (false = domB xs) := by show false = _; rw [HE.out]; simp [t3]
            clear HE
            go_wp2
            go_ret
            exact ⟨ret_bool HN.out, HB1.out⟩
        · have HN : Hid (false = domB xs) := by show false = _; rw [HE.out]; simp [t2]
          clear HE
          go_wp2
          go_ret
          exact ⟨ret_bool HN.out, HB1.out⟩
      · have HN : Hid (false = domB xs) := by show false = _; rw [HE.out]; simp [t1]
        clear HE
        go_wp2
        go_ret
        exact ⟨ret_bool HN.out, HB1.out⟩
    · have HN : Hid (true = domB xs) := by show true = _; rw [HD.out, List.drop_of_length_le (by omega)]; rfl
      clear HD
      go_wp2
      go_ret
      exact ⟨ret_bool HN.out, HB.out⟩

/-! ### ZZRange, toRuneRanges, appendRanges -/
theorem Try.info60 : (Try.prog.info? 60).map (fun i => (i.zero, i.size, i.bytes)) = some (some (.agg #[.int .i32 0, .int .i32 0]), 2, 8) := by kernel_rfl
theorem Try.info58 : (Try.prog.info? 58).map (fun i => (i.zero, i.size, i.bytes)) = some (some (.agg #[.int .i32 0, .int .i32 0]), 2, 8) := by kernel_rfl
theorem Try.info66 : (Try.prog.info? 66).map (fun i => (i.zero, i.size, i.bytes)) = some (some (.agg #[.int .i64 0, .int .i64 0]), 2, 16) := by kernel_rfl
theorem Try.info21 : (Try.prog.info? 21).map (fun i => (i.zero, i.size, i.bytes)) = some (some (.int .i32 0), 1, 4) := by kernel_rfl

theorem range_any (lo hi : Int) (w : World) :
    Calls Try.prog 31 #[.int .i32 lo, .int .i32 hi] w fun e w' => e = .returned (.agg #[.int .i32 lo, .int .i32 hi]) ∧ w' = w.alloc (.cells #[.int .i32 lo, .int .i32 hi] 60) := by
  go_enter Try.func31, Try.ntmps31
  go_wp2
  exact bodyPost_ret (v := .agg #[.int .i32 lo, .int .i32 hi]) (by simp [results, Try.results31, go_sem]) rfl ⟨rfl, rfl⟩

theorem two_new (w : World) (x y : Value) (t : TypeId) : ∀ j u, [x, y][j]? = some u → (w.alloc (.cells #[x, y] t)).cell? ((⟨w.heap.size, 0, none⟩ : Addr).add j) = some u := by
  intro j u h
  match j, h with
  | 0, h => simp at h; subst h; simp [Addr.add]
  | 1, h => simp at h; subst h; simp [Addr.add]
theorem two_new_at (w : World) (x y : Value) (t : TypeId) (n : Nat) (hn : w.heap.size = n) : ∀ j u, [x, y][j]? = some u → (w.alloc (.cells #[x, y] t)).cell? ((⟨n, 0, none⟩ : Addr).add j) = some u := by
  subst hn; exact two_new w x y t
theorem two_one (k : IntKind) (x y : Int) : ∀ u ∈ [Value.int k x, Value.int k y], u.oneCell' = true := by
  intro u hu; simp at hu; rcases hu with rfl | rfl <;> rfl

theorem own_push {k : IntKind} {w' : World} {B : Nat} {e : TypeId} {v' : Value} {xs : List (Int × Int)} {x y : Int} (h : w'.ownsRow B e 2 v' (xs.length + 1) (flat k xs ++ [.int k x, .int k y])) :
    w'.ownsRow B e 2 v' (xs ++ [(x, y)]).length (flat k (xs ++ [(x, y)])) := by
  rw [flat_append, List.length_append]; exact h
theorem below_push {B : Nat} {w wa w' : World} {e : TypeId} {size n : Nat} {v : Value} {l : List Value} (HB : Below B w wa) (hown : wa.ownsRow B e size v n l) (hg : wa.grownBy w' v.ownBlock) (hB : B ≤ wa.heap.size) : Below B w w' :=
  HB.grown hg hB (fun k hk => (hown.lt k hk).1)
theorem take_snoc {α : Type} {xs : List α} {k : Nat} {r : α} (h : xs.drop k = r :: xs.drop (k + 1)) : xs.take (k + 1) = xs.take k ++ [r] := by
  have hk : k < xs.length := by
    rcases Nat.lt_or_ge k xs.length with h' | h'
    · exact h'
    · rw [List.drop_of_length_le h'] at h; cases h
  rw [List.drop_eq_getElem_cons hk] at h
  rw [List.take_succ_eq_append_getElem hk]
  simp only [List.cons.injEq] at h
  rw [h.1]

/-- a result that is a row of pairs -/
def RetPairs (k : IntKind) (xs : List (Int × Int)) (e : Ending) (w' : World) : Prop := ∃ a cap, e = .returned (.slice a xs.length cap) ∧ PairRow k w' a xs ∧ xs.length ≤ cap ∧ (a = none → xs = [] ∧ cap = 0)
theorem retPairs_own {k : IntKind} {w : World} {base : Nat} {e : TypeId} {v : Value} {xs : List (Int × Int)} (h : w.ownsRow base e 2 v xs.length (flat k xs)) : RetPairs k xs (.returned v) w := by
  obtain ⟨a, cap, rfl, hp⟩ := pairRow_own h
  exact ⟨a, cap, rfl, hp⟩

set_option maxHeartbeats 1000000 in
theorem toRune_any (a : Option Addr) (cap : Nat) (xs : List (Int × Int)) (w : World) (hm : xs.length ≤ 1048576) (hr : Hid (PairRow .i32 w a xs)) :
    Calls Try.prog 11 #[.slice a xs.length cap] w fun e w' => RetPairs .i32 xs e w' ∧ Below w.heap.size w w' := by
  obtain ⟨i0, hi0, hz0, hz1, hz2⟩ := info_parts Try.info60
  go_enter Try.func11, Try.ntmps11
  go_wp2_with fail
  go_loopw [3, 8] (fun v i wr => ∃ k : Nat, k ≤ xs.length ∧ i = .int .i64 k ∧ Hid (wr.ownsRow w.heap.size 60 2 v (xs.take k).length (flat .i32 (xs.take k))) ∧ Hid (Below w.heap.size w wr)) (fun _ i _ => xs.length - (intOf i).toNat)
  case atStart => exact ⟨0, Nat.zero_le _, rfl, World.ownsRow_nil _ _ _ _, Below.refl _ _⟩
  case round =>
    obtain ⟨k, hk, rfl, HO, HB⟩ := hrel
    by_cases hlt : k < xs.length
    · obtain ⟨b, off, lo, hi, rfl, c1, c2, hbl, HX, HM⟩ := hr.out.get HB.out hlt
      have hsz := HB.out.size
      have hln : (xs.take k).length ≤ 1048576 := by simp; omega
      go_wp2_with (first | (go_at_call 31; refine (range_any _ _ _).mono ?_; rintro e w' ⟨rfl, rfl⟩) | (at_builtin; refine wpList_append_own _ rfl (.tmp 12) (.tmp 18) 27 rfl w.heap.size 60 i0 (.agg #[.int .i32 0, .int .i32 0]) 2 8 Try.underlying27 hi0 hz0 hz1 hz2 rfl (by decide) _ _ _ rfl (((HO.out.alloc _).alloc _).alloc _) ⟨wr.heap.size + 2, 0, none⟩ 1 1 [.int .i32 lo, .int .i32 hi] rfl rfl (two_new_at _ _ _ _ _ (by simp)) (two_one _ _ _) (by unfold maxLen; omega) (by omega) (by simp; omega) ?_; intro v1 w1 hown1 hgrow1 hnil1))
      have HO1 : Hid (w1.ownsRow w.heap.size 60 2 v1 (xs.take (k + 1)).length (flat .i32 (xs.take (k + 1)))) := by rw [take_snoc HX.out]; exact own_push hown1
      have HB1 : Hid (Below w.heap.size w w1) := below_push (((HB.out.alloc hsz _).alloc (by simp; omega) _).alloc (by simp; omega) _) (((HO.out.alloc _).alloc _).alloc _) hgrow1 (by simp; omega)
      clear hown1 hgrow1 hnil1
      go_wp2_with fail
      go_roundw
      case rel => exact ⟨k + 1, hlt, by go_num, HO1, HB1⟩
      case measure => simp [intOf]; omega
    · go_wp2_with fail
      go_ret
      rw [List.take_of_length_le (by omega)] at HO
      exact ⟨retPairs_own HO.out, HB.out⟩
end Go.Proofs.Qxb6605195a
