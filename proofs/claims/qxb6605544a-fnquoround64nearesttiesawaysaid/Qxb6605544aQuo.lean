/-
  SEAT b6605544a: THE WALKS OF abs64, magOf, mulWide, quoRound64, ZZquoRound64.
-/
import Derived.Test.Qxb6605544aAppend
import Derived.Test.Qxb6605544aQuoMath
import Derived.RegionTactic
import Derived.ChangeAlike
namespace Go.Proofs.Qxb6605544a
open Go.RowKit

theorem neg_wrap {a : Int} {n : Nat} (h0 : -9223372036854775808 ≤ a) (h : a < 0) (hn : a.natAbs = n) : IntKind.u64.wrap (wrap64 (-a)) = n := by
  rw [IntKind.wrap_u64]; unfold wrap64; omega
theorem wrap_neg {a : Int} {n : Nat} (h0 : -9223372036854775808 ≤ a) (h : a < 0) (hn : a.natAbs = n) : IntKind.u64.wrap (-IntKind.u64.wrap a) = n := by
  rw [IntKind.wrap_u64, IntKind.wrap_u64]; omega
theorem abs22 (a : Int) (n : Nat) (w : World) (h0 : -9223372036854775808 ≤ a) (h1 : a ≤ 9223372036854775807) (hn : Hid (a.natAbs = n)) :
    Calls Try.prog 22 #[.int .i64 a] w fun e w' => e = .returned (.int .u64 n) ∧ w' = w := by
  by_cases h : a < 0
  · go_enter Try.func22, Try.ntmps22
    go_wp2
    go_ret
    exact ⟨ret_int (neg_wrap h0 h hn.out), rfl⟩
  · have e : a = n := by have := hn.out; omega
    have E : Hid (a = n) := e
    clear e hn
    go_enter Try.func22, Try.ntmps22
    go_wp2
    go_ret
    exact ⟨ret_int E.out, rfl⟩
theorem mag8 (a : Int) (n : Nat) (w : World) (h0 : -9223372036854775808 ≤ a) (h1 : a ≤ 9223372036854775807) (hn : Hid (a.natAbs = n)) :
    Calls Try.prog 8 #[.int .i64 a] w fun e w' => e = .returned (.int .u64 n) ∧ w' = w := by
  by_cases h : a < 0
  · go_enter Try.func8, Try.ntmps8
    go_wp2
    go_ret
    exact ⟨ret_int (wrap_neg h0 h hn.out), rfl⟩
  · have e : a = n := by have := hn.out; omega
    have E : Hid (a = n) := e
    clear e hn
    go_enter Try.func8, Try.ntmps8
    go_wp2
    go_ret
    exact ⟨ret_int E.out, rfl⟩
theorem tuple_two {a b c d : Int} (h : a = c) (g : b = d) : Ending.returned (.tuple #[.int .u64 a, .int .u64 b]) = .returned (.tuple #[.int .u64 c, .int .u64 d]) := by rw [h, g]
theorem mul9 (m n p : Nat) (w : World) (h1 : m ≤ 18446744073709551615) (h3 : n ≤ 18446744073709551615) (hp : p ≤ 18446744073709551615) (hm : Hid (m * n = p)) :
    Calls Try.prog 9 #[.int .u64 m, .int .u64 n] w fun e w' => e = .returned (.tuple #[.int .u64 0, .int .u64 p]) ∧ w' = w := by
  have e : (m : Int) * (n : Int) = p := by rw [← hm.out, Int.natCast_mul]
  have HE : Hid ((m : Int) * (n : Int) = p) := e
  clear e hm
  go_enter Try.func9, Try.ntmps9
  go_wp2
  go_ret2
  refine ⟨tuple_two (Math.hi_zero (by omega) (by omega) (by omega) (by omega) ?_) ?_, rfl⟩
  · rw [HE.out]; omega
  · rw [HE.out]; exact IntWalk.u64_in _ (by omega)

/-- What the rounded quotient q is, to the law. -/
structure Rounds (x y q : Int) : Prop where
  low : -9223372036854775808 ≤ q
  high : q ≤ 9223372036854775807
  mag : q.natAbs = Math.roundMag x.natAbs y.natAbs
  pp : 0 ≤ x → 0 ≤ y → 0 ≤ q
  nn : x < 0 → y < 0 → 0 ≤ q
  pn : 0 ≤ x → y < 0 → q ≤ 0
  np : x < 0 → 0 ≤ y → q ≤ 0

theorem rounds_stay {x y : Int} (h0 : -9223372036854775808 ≤ x.tdiv y) (h1 : x.tdiv y ≤ 9223372036854775807) (h : 2 * (x.natAbs % y.natAbs) < y.natAbs) : Rounds x y (x.tdiv y) where
  low := h0
  high := h1
  mag := by rw [Math.roundMag_down h, Math.tdiv_abs]
  pp := fun a b => Math.tdiv_pp a b
  nn := fun a b => Math.tdiv_nn (by omega) (by omega)
  pn := fun a b => Math.tdiv_pn a (by omega)
  np := fun a b => Math.tdiv_np (by omega) b
theorem rounds_more {x y : Int} (hx0 : -9223372036854775808 ≤ x) (hx1 : x ≤ 9223372036854775807) (hy : y ≠ 0) (h : y.natAbs ≤ 2 * (x.natAbs % y.natAbs)) (s : (0 ≤ x ∧ 0 ≤ y) ∨ (x < 0 ∧ y < 0)) : Rounds x y (x.tdiv y + 1) := by
  have hb := Math.div_half (A := x.natAbs) (by omega) (Math.up_two (by omega) h)
  have ht := Math.tdiv_abs x y
  have hp : 0 ≤ x.tdiv y := by
    rcases s with s | s
    · exact Math.tdiv_pp s.1 s.2
    · exact Math.tdiv_nn (by omega) (by omega)
  refine ⟨by omega, by omega, ?_, ?_, ?_, ?_, ?_⟩
  · rw [Math.roundMag_up h]; omega
  all_goals omega
theorem rounds_less {x y : Int} (hx0 : -9223372036854775808 ≤ x) (hx1 : x ≤ 9223372036854775807) (hy : y ≠ 0) (h : y.natAbs ≤ 2 * (x.natAbs % y.natAbs)) (s : (0 ≤ x ∧ y < 0) ∨ (x < 0 ∧ 0 ≤ y)) : Rounds x y (x.tdiv y - 1) := by
  have hb := Math.div_half (A := x.natAbs) (by omega) (Math.up_two (by omega) h)
  have ht := Math.tdiv_abs x y
  have hp : x.tdiv y ≤ 0 := by
    rcases s with s | s
    · exact Math.tdiv_pn s.1 (by omega)
    · exact Math.tdiv_np (by omega) s.2
  refine ⟨by omega, by omega, ?_, ?_, ?_, ?_, ?_⟩
  · rw [Math.roundMag_up h]; omega
  all_goals omega

set_option maxHeartbeats 1000000 in
theorem quo19_stay (x y T S : Int) (B R : Nat) (w : World) (h2 : -9223372036854775808 ≤ y) (h3 : y ≤ 9223372036854775807) (h4 : ¬ y = 0) (hT : x.tdiv y = T) (hS : x.tmod y = S) (hT0 : -9223372036854775808 ≤ T) (hT1 : T ≤ 9223372036854775807) (hlt : R < B) (HB : Hid (y.natAbs = B)) (HR : Hid (S.natAbs = R)) (hBm : B ≤ 9223372036854775808) (hS0 : -9223372036854775808 ≤ S) (hS1 : S ≤ 9223372036854775807) (hc : ¬ B ≤ 2 * R) (HF : Hid (Rounds x y (T))) :
    Calls Try.prog 19 #[.int .i64 x, .int .i64 y] w fun e w' => ∃ q : Int, e = .returned (.int .i64 q) ∧ w' = w.drew ∧ Rounds x y q := by
  go_enter Try.func19, Try.ntmps19
  go_wp2
  go_region
  clear hT hS
  go_wp2_with fail
  refine (abs22 _ R _ hS0 hS1 HR).mono ?_
  rintro e w' ⟨rfl, rfl⟩
  go_wp2_with fail
  refine (abs22 _ B _ h2 h3 HB).mono ?_
  rintro e w' ⟨rfl, rfl⟩
  go_wp2_with fail
  go_ret
  exact ⟨_, rfl, rfl, HF.out⟩
set_option maxHeartbeats 1000000 in
theorem quo19_nn (x y T S : Int) (B R : Nat) (w : World) (h2 : -9223372036854775808 ≤ y) (h3 : y ≤ 9223372036854775807) (h4 : ¬ y = 0) (hT : x.tdiv y = T) (hS : x.tmod y = S) (hT0 : -9223372036854775808 ≤ T) (hT1 : T ≤ 9223372036854775807) (hlt : R < B) (HB : Hid (y.natAbs = B)) (HR : Hid (S.natAbs = R)) (hBm : B ≤ 9223372036854775808) (hS0 : -9223372036854775808 ≤ S) (hS1 : S ≤ 9223372036854775807) (hc : B ≤ 2 * R) (HX : Hid (x < 0)) (HY : Hid (y < 0)) (HF : Hid (Rounds x y (T + 1))) :
    Calls Try.prog 19 #[.int .i64 x, .int .i64 y] w fun e w' => ∃ q : Int, e = .returned (.int .i64 q) ∧ w' = w.drew ∧ Rounds x y q := by
  have hU0 := HF.out.low
  have hU1 := HF.out.high
  go_enter Try.func19, Try.ntmps19
  go_wp2
  go_region
  clear hT hS
  go_wp2_with fail
  refine (abs22 _ R _ hS0 hS1 HR).mono ?_
  rintro e w' ⟨rfl, rfl⟩
  go_wp2_with fail
  refine (abs22 _ B _ h2 h3 HB).mono ?_
  rintro e w' ⟨rfl, rfl⟩
  have hx := HX.out
  have hy := HY.out
  go_wp2_with fail
  go_ret
  exact ⟨_, rfl, rfl, HF.out⟩
set_option maxHeartbeats 1000000 in
theorem quo19_np (x y T S : Int) (B R : Nat) (w : World) (h2 : -9223372036854775808 ≤ y) (h3 : y ≤ 9223372036854775807) (h4 : ¬ y = 0) (hT : x.tdiv y = T) (hS : x.tmod y = S) (hT0 : -9223372036854775808 ≤ T) (hT1 : T ≤ 9223372036854775807) (hlt : R < B) (HB : Hid (y.natAbs = B)) (HR : Hid (S.natAbs = R)) (hBm : B ≤ 9223372036854775808) (hS0 : -9223372036854775808 ≤ S) (hS1 : S ≤ 9223372036854775807) (hc : B ≤ 2 * R) (HX : Hid (x < 0)) (HY : Hid (0 ≤ y)) (HF : Hid (Rounds x y (T - 1))) :
    Calls Try.prog 19 #[.int .i64 x, .int .i64 y] w fun e w' => ∃ q : Int, e = .returned (.int .i64 q) ∧ w' = w.drew ∧ Rounds x y q := by
  have hU0 := HF.out.low
  have hU1 := HF.out.high
  go_enter Try.func19, Try.ntmps19
  go_wp2
  go_region
  clear hT hS
  go_wp2_with fail
  refine (abs22 _ R _ hS0 hS1 HR).mono ?_
  rintro e w' ⟨rfl, rfl⟩
  go_wp2_with fail
  refine (abs22 _ B _ h2 h3 HB).mono ?_
  rintro e w' ⟨rfl, rfl⟩
  have hx := HX.out
  have hy := HY.out
  go_wp2_with fail
  go_ret
  exact ⟨_, rfl, rfl, HF.out⟩
set_option maxHeartbeats 1000000 in
theorem quo19_pn (x y T S : Int) (B R : Nat) (w : World) (h2 : -9223372036854775808 ≤ y) (h3 : y ≤ 9223372036854775807) (h4 : ¬ y = 0) (hT : x.tdiv y = T) (hS : x.tmod y = S) (hT0 : -9223372036854775808 ≤ T) (hT1 : T ≤ 9223372036854775807) (hlt : R < B) (HB : Hid (y.natAbs = B)) (HR : Hid (S.natAbs = R)) (hBm : B ≤ 9223372036854775808) (hS0 : -9223372036854775808 ≤ S) (hS1 : S ≤ 9223372036854775807) (hc : B ≤ 2 * R) (HX : Hid (0 ≤ x)) (HY : Hid (y < 0)) (HF : Hid (Rounds x y (T - 1))) :
    Calls Try.prog 19 #[.int .i64 x, .int .i64 y] w fun e w' => ∃ q : Int, e = .returned (.int .i64 q) ∧ w' = w.drew ∧ Rounds x y q := by
  have hU0 := HF.out.low
  have hU1 := HF.out.high
  go_enter Try.func19, Try.ntmps19
  go_wp2
  go_region
  clear hT hS
  go_wp2_with fail
  refine (abs22 _ R _ hS0 hS1 HR).mono ?_
  rintro e w' ⟨rfl, rfl⟩
  go_wp2_with fail
  refine (abs22 _ B _ h2 h3 HB).mono ?_
  rintro e w' ⟨rfl, rfl⟩
  have hx := HX.out
  have hy := HY.out
  go_wp2_with fail
  go_ret
  exact ⟨_, rfl, rfl, HF.out⟩
set_option maxHeartbeats 1000000 in
theorem quo19_pp (x y T S : Int) (B R : Nat) (w : World) (h2 : -9223372036854775808 ≤ y) (h3 : y ≤ 9223372036854775807) (h4 : ¬ y = 0) (hT : x.tdiv y = T) (hS : x.tmod y = S) (hT0 : -9223372036854775808 ≤ T) (hT1 : T ≤ 9223372036854775807) (hlt : R < B) (HB : Hid (y.natAbs = B)) (HR : Hid (S.natAbs = R)) (hBm : B ≤ 9223372036854775808) (hS0 : -9223372036854775808 ≤ S) (hS1 : S ≤ 9223372036854775807) (hc : B ≤ 2 * R) (HX : Hid (0 ≤ x)) (HY : Hid (0 ≤ y)) (HF : Hid (Rounds x y (T + 1))) :
    Calls Try.prog 19 #[.int .i64 x, .int .i64 y] w fun e w' => ∃ q : Int, e = .returned (.int .i64 q) ∧ w' = w.drew ∧ Rounds x y q := by
  have hU0 := HF.out.low
  have hU1 := HF.out.high
  go_enter Try.func19, Try.ntmps19
  go_wp2
  go_region
  clear hT hS
  go_wp2_with fail
  refine (abs22 _ R _ hS0 hS1 HR).mono ?_
  rintro e w' ⟨rfl, rfl⟩
  go_wp2_with fail
  refine (abs22 _ B _ h2 h3 HB).mono ?_
  rintro e w' ⟨rfl, rfl⟩
  have hxy : (decide (x < 0) == decide (y < 0)) = true := by
    have hx := HX.out
    have hy := HY.out
    rw [decide_eq_false (by omega), decide_eq_false (by omega)]; rfl
  go_wp2_with fail
  go_ret
  exact ⟨_, rfl, rfl, HF.out⟩
theorem quo19 (x y : Int) (w : World) (h0 : -9223372036854775808 ≤ x) (h1 : x ≤ 9223372036854775807) (h2 : -9223372036854775808 ≤ y) (h3 : y ≤ 9223372036854775807) (h4 : ¬ y = 0) (hs : -9223372036854775808 < x ∨ y ≠ -1) :
    Calls Try.prog 19 #[.int .i64 x, .int .i64 y] w fun e w' => ∃ q : Int, e = .returned (.int .i64 q) ∧ w' = w.drew ∧ Rounds x y q := by
  obtain ⟨hT0, hT1⟩ := Math.tdiv_fits h0 h1 h4 hs
  obtain ⟨B, hB⟩ : ∃ B : Nat, y.natAbs = B := ⟨_, rfl⟩
  obtain ⟨R, hR⟩ : ∃ R : Nat, (x.tmod y).natAbs = R := ⟨_, rfl⟩
  have hRm : x.natAbs % y.natAbs = R := by rw [← hR, Math.tmod_abs]
  have hlt : R < B := by rw [← hRm, ← hB]; exact Nat.mod_lt _ (by omega)
  have hBm : B ≤ 9223372036854775808 := by omega
  have hS0 : -9223372036854775808 ≤ x.tmod y := by omega
  have hS1 : x.tmod y ≤ 9223372036854775807 := by omega
  by_cases hc : B ≤ 2 * R
  · have hc' : y.natAbs ≤ 2 * (x.natAbs % y.natAbs) := by rw [hRm, hB]; exact hc
    by_cases hx : x < 0
    · by_cases hy : y < 0
      · exact quo19_nn x y _ _ B R w h2 h3 h4 rfl rfl hT0 hT1 hlt hB hR hBm hS0 hS1 hc hx hy (rounds_more h0 h1 h4 hc' (by omega))
      · exact quo19_np x y _ _ B R w h2 h3 h4 rfl rfl hT0 hT1 hlt hB hR hBm hS0 hS1 hc hx (by show 0 ≤ y; omega) (rounds_less h0 h1 h4 hc' (by omega))
    · by_cases hy : y < 0
      · exact quo19_pn x y _ _ B R w h2 h3 h4 rfl rfl hT0 hT1 hlt hB hR hBm hS0 hS1 hc (by show 0 ≤ x; omega) hy (rounds_less h0 h1 h4 hc' (by omega))
      · exact quo19_pp x y _ _ B R w h2 h3 h4 rfl rfl hT0 hT1 hlt hB hR hBm hS0 hS1 hc (by show 0 ≤ x; omega) (by show 0 ≤ y; omega) (rounds_more h0 h1 h4 hc' (by omega))
  · exact quo19_stay x y _ _ B R w h2 h3 h4 rfl rfl hT0 hT1 hlt hB hR hBm hS0 hS1 hc (rounds_stay hT0 hT1 (by rw [hRm, hB]; omega))

set_option maxHeartbeats 400000 in
theorem quo7 (x y : Int) (w : World) (h0 : -9223372036854775808 ≤ x) (h1 : x ≤ 9223372036854775807) (h2 : -9223372036854775808 ≤ y) (h3 : y ≤ 9223372036854775807) (h4 : ¬ y = 0) (hs : -9223372036854775808 < x ∨ y ≠ -1) :
    Calls Try.prog 7 #[.int .i64 x, .int .i64 y] w fun e w' => ∃ q : Int, e = .returned (.int .i64 q) ∧ w' = w.drew ∧ Rounds x y q := by
  go_enter Try.func7, Try.ntmps7
  go_wp2_with fail
  refine (quo19 x y _ h0 h1 h2 h3 h4 hs).mono ?_
  rintro e w' ⟨q, rfl, rfl, HQ⟩
  go_wp2
  go_ret
  exact ⟨q, rfl, rfl, HQ⟩

/-- The one quotient that does not fit. -/
theorem wrap_least : wrap64 9223372036854775808 = -9223372036854775808 := by unfold wrap64; omega
theorem quo19_least (w : World) :
    Calls Try.prog 19 #[.int .i64 (-9223372036854775808), .int .i64 (-1)] w fun e w' => e = .returned (.int .i64 (-9223372036854775808)) ∧ w' = w.drew := by
  go_enter Try.func19, Try.ntmps19
  go_wp2
  go_region
  go_wp2_with fail
  refine (abs22 0 0 _ (by omega) (by omega) (Eq.refl (Int.natAbs 0))).mono ?_
  rintro e w' ⟨rfl, rfl⟩
  go_wp2_with fail
  refine (abs22 (-1) 1 _ (by omega) (by omega) (Eq.refl (Int.natAbs (-1)))).mono ?_
  rintro e w' ⟨rfl, rfl⟩
  go_wp2_with fail
  go_ret
  exact ⟨ret_int wrap_least, rfl⟩
theorem quo7_least (w : World) :
    Calls Try.prog 7 #[.int .i64 (-9223372036854775808), .int .i64 (-1)] w fun e w' => e = .returned (.int .i64 (-9223372036854775808)) ∧ w' = w.drew := by
  go_enter Try.func7, Try.ntmps7
  go_wp2_with fail
  refine (quo19_least _).mono ?_
  rintro e w' ⟨rfl, rfl⟩
  go_wp2
  go_ret
  exact ⟨rfl, rfl⟩
end Go.Proofs.Qxb6605544a
