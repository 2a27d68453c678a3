/-
  A PROOF OF 'Rows.FnQuoRound64NearestTiesAwaySaid'. The frame ('lifted', 'over') is the guide's own template at this function's number and types, laid by its skeleton tool; the walk is ours.
-/
import Derived.Test.Qxb6605544aRows
import Derived.WalkKit
import Derived.ProofKit
import Derived.OpenShut
import Derived.ShutString
import Derived.Test.Qxb6605544aQuo
namespace Go.Proofs.Qxb6605544a.fnQuoRound64NearestTiesAway
open Go.ChangeShapes Go.WideShapes Go.ChangeAt Go.RowKit
open Go.ChangeMaps (open_string shut_string)
set_option linter.unusedVariables false      -- a walk need not use every 'w<i>' (that an integer argument fits its kind)

theorem own : ownKnob Try.prog.godebug = none := by kernel_rfl

/-! ### WHAT THE ROUNDED QUOTIENT BRINGS TO THE LAW's TESTS, in their own spelling -/
/-- M the magnitude of q, L the product M * B: the sign agrees, the product fits, the gap is at most a half. -/
def Facts (x y q : Int) (A B : Nat) : Prop :=
  ∃ M L : Nat, -9223372036854775808 ≤ q ∧ q ≤ 9223372036854775807 ∧ Hid (q.natAbs = M) ∧
    Hid (M ≠ 0 → (decide (x < 0) = true ∧ decide (y < 0) = true ∧ decide (q < 0) = false) ∨ (decide (x < 0) = true ∧ decide (y < 0) = false ∧ decide (q < 0) = true) ∨ (decide (x < 0) = false ∧ decide (y < 0) = true ∧ decide (q < 0) = true) ∨ (decide (x < 0) = false ∧ decide (y < 0) = false ∧ decide (q < 0) = false)) ∧ (M ≤ 9223372036854775808 ∧ B ≤ 9223372036854775808 ∧ A ≤ 9223372036854775808) ∧
    Hid (M * B = L) ∧ L ≤ 18446744073709551615 ∧ ((L ≤ A ∧ 2 * A < B + 2 * L) ∨ (A < L ∧ 2 * L ≤ B + 2 * A))
theorem facts {x y q : Int} (h0 : -9223372036854775808 ≤ x) (h1 : x ≤ 9223372036854775807) (h2 : -9223372036854775808 ≤ y) (h3 : y ≤ 9223372036854775807) (h4 : y ≠ 0) (R : Rounds x y q) : Facts x y q x.natAbs y.natAbs := by
  have hq0 := R.low
  have hq1 := R.high
  have hn := Math.near (A := x.natAbs) (B := y.natAbs) (by omega)
  rw [← R.mag] at hn
  have hsg : q.natAbs ≠ 0 → (decide (x < 0) = true ∧ decide (y < 0) = true ∧ decide (q < 0) = false) ∨ (decide (x < 0) = true ∧ decide (y < 0) = false ∧ decide (q < 0) = true) ∨ (decide (x < 0) = false ∧ decide (y < 0) = true ∧ decide (q < 0) = true) ∨ (decide (x < 0) = false ∧ decide (y < 0) = false ∧ decide (q < 0) = false) := by
    intro hq
    by_cases hx : x < 0
    · by_cases hy : y < 0
      · have := R.nn hx hy
        exact Or.inl ⟨decide_eq_true hx, decide_eq_true hy, decide_eq_false (by omega)⟩
      · have := R.np hx (by omega)
        exact Or.inr (Or.inl ⟨decide_eq_true hx, decide_eq_false hy, decide_eq_true (by omega)⟩)
    · by_cases hy : y < 0
      · have := R.pn (by omega) hy
        exact Or.inr (Or.inr (Or.inl ⟨decide_eq_false hx, decide_eq_true hy, decide_eq_true (by omega)⟩))
      · have := R.pp (by omega) (by omega)
        exact Or.inr (Or.inr (Or.inr ⟨decide_eq_false hx, decide_eq_false hy, decide_eq_false (by omega)⟩))
  exact ⟨q.natAbs, q.natAbs * y.natAbs, hq0, hq1, rfl, hsg, by omega, rfl, by omega, by omega⟩

theorem plain_test {x : Int} (h : -9223372036854775808 < x) : (x == -9223372036854775808) = false := by
  have : x ≠ -9223372036854775808 := by omega
  simp [this]
set_option maxHeartbeats 1000000 in
theorem walk_gen (a0 a1 : Int) (w : World) (h0 : -9223372036854775808 ≤ a0) (h1 : a0 ≤ 9223372036854775807) (h2 : -9223372036854775808 ≤ a1) (h3 : a1 ≤ 9223372036854775807) (h4 : ¬ a1 = 0) (hs : -9223372036854775808 < a0 ∨ a1 ≠ -1) (ht : (a0 == -9223372036854775808) = false) :
    Calls Try.prog 3 #[.int .i64 a0, .int .i64 a1] w fun e w' => e = .returned (.bool true) ∧ Grown w w' := by
  obtain ⟨A, hA⟩ : ∃ A : Nat, a0.natAbs = A := ⟨_, rfl⟩
  obtain ⟨B, hB⟩ : ∃ B : Nat, a1.natAbs = B := ⟨_, rfl⟩
  have HA : Hid (a0.natAbs = A) := hA
  have HB : Hid (a1.natAbs = B) := hB
  have HF : Hid (∀ q, Rounds a0 a1 q → Facts a0 a1 q A B) := fun q R => by rw [← hA, ← hB]; exact facts h0 h1 h2 h3 h4 R
  have HS : Hid (-9223372036854775808 < a0 ∨ a1 ≠ -1) := hs
  clear hA hB hs
  go_enter Try.func3, Try.ntmps3
  go_wp2_with fail
  refine (quo7 a0 a1 _ h0 h1 h2 h3 h4 HS.out).mono ?_
  rintro e w' ⟨q, rfl, rfl, R⟩
  have HQ : Hid (Facts a0 a1 q A B) := HF.out q R
  clear R HF HS
  go_wp2_with fail
  refine (mag8 _ A _ h0 h1 HA).mono ?_
  rintro e w' ⟨rfl, rfl⟩
  go_wp2_with fail
  refine (mag8 _ B _ h2 h3 HB).mono ?_
  rintro e w' ⟨rfl, rfl⟩
  go_wp2_with fail
  obtain ⟨M, L, hq0, hq1, HM, hsg, hML, HL, hl, hnear⟩ := HQ.out
  refine (mag8 _ M _ hq0 hq1 HM).mono ?_
  rintro e w' ⟨rfl, rfl⟩
  clear HQ h0 h1 h2 h3 h4 hq0 hq1
  by_cases hM : M = 0
  · have hM' : ((M : Int) != 0) = false := by rw [hM]; rfl
    clear hM
    go_wp2_with fail
    refine (mul9 M B L _ (by omega) (by omega) (by omega) HL).mono ?_
    rintro e w' ⟨rfl, rfl⟩
    rcases hnear with ⟨g1, g2⟩ | ⟨g1, g2⟩
    · go_wp2_with fail
      go_ret
      exact ⟨ret_bool (decide_eq_true (by omega)), Grown.drew (Grown.refl _)⟩
    · go_wp2_with fail
      go_ret
      exact ⟨ret_bool (decide_eq_true (by omega)), Grown.drew (Grown.refl _)⟩
  · have hM' : ((M : Int) != 0) = true := by simp [hM]
    have hsg' := hsg.out hM
    clear hM hsg
    rcases hsg' with ⟨s1, s2, s3⟩ | ⟨s1, s2, s3⟩ | ⟨s1, s2, s3⟩ | ⟨s1, s2, s3⟩
    all_goals
      go_wp2_with fail
      refine (mul9 M B L _ (by omega) (by omega) (by omega) HL).mono ?_
      rintro e w' ⟨rfl, rfl⟩
      rcases hnear with ⟨g1, g2⟩ | ⟨g1, g2⟩
      · go_wp2_with fail
        go_ret
        exact ⟨ret_bool (decide_eq_true (by omega)), Grown.drew (Grown.refl _)⟩
      · go_wp2_with fail
        go_ret
        exact ⟨ret_bool (decide_eq_true (by omega)), Grown.drew (Grown.refl _)⟩
set_option maxHeartbeats 1000000 in
theorem walk_least (a1 : Int) (w : World) (h2 : -9223372036854775808 ≤ a1) (h3 : a1 ≤ 9223372036854775807) (h4 : ¬ a1 = 0) (ht : ¬ a1 = -1) :
    Calls Try.prog 3 #[.int .i64 (-9223372036854775808), .int .i64 a1] w fun e w' => e = .returned (.bool true) ∧ Grown w w' := by
  have h0 : -9223372036854775808 ≤ (-9223372036854775808 : Int) := by omega
  have h1 : (-9223372036854775808 : Int) ≤ 9223372036854775807 := by omega
  obtain ⟨A, hA⟩ : ∃ A : Nat, (-9223372036854775808 : Int).natAbs = A := ⟨_, rfl⟩
  obtain ⟨B, hB⟩ : ∃ B : Nat, a1.natAbs = B := ⟨_, rfl⟩
  have HA : Hid ((-9223372036854775808 : Int).natAbs = A) := hA
  have HB : Hid (a1.natAbs = B) := hB
  have HF : Hid (∀ q, Rounds (-9223372036854775808) a1 q → Facts (-9223372036854775808) a1 q A B) := fun q R => by rw [← hA, ← hB]; exact facts h0 h1 h2 h3 h4 R
  have HS : Hid (-9223372036854775808 < (-9223372036854775808 : Int) ∨ a1 ≠ -1) := Or.inr ht
  clear hA hB
  go_enter Try.func3, Try.ntmps3
  go_wp2_with fail
  refine (quo7 (-9223372036854775808) a1 _ h0 h1 h2 h3 h4 HS.out).mono ?_
  rintro e w' ⟨q, rfl, rfl, R⟩
  have HQ : Hid (Facts (-9223372036854775808) a1 q A B) := HF.out q R
  clear R HF HS
  go_wp2_with fail
  refine (mag8 _ A _ h0 h1 HA).mono ?_
  rintro e w' ⟨rfl, rfl⟩
  go_wp2_with fail
  refine (mag8 _ B _ h2 h3 HB).mono ?_
  rintro e w' ⟨rfl, rfl⟩
  go_wp2_with fail
  obtain ⟨M, L, hq0, hq1, HM, hsg, hML, HL, hl, hnear⟩ := HQ.out
  refine (mag8 _ M _ hq0 hq1 HM).mono ?_
  rintro e w' ⟨rfl, rfl⟩
  clear HQ h0 h1 h2 h3 h4 hq0 hq1
  by_cases hM : M = 0
  · have hM' : ((M : Int) != 0) = false := by rw [hM]; rfl
    clear hM
    go_wp2_with fail
    refine (mul9 M B L _ (by omega) (by omega) (by omega) HL).mono ?_
    rintro e w' ⟨rfl, rfl⟩
    rcases hnear with ⟨g1, g2⟩ | ⟨g1, g2⟩
    · go_wp2_with fail
      go_ret
      exact ⟨ret_bool (decide_eq_true (by omega)), Grown.drew (Grown.refl _)⟩
    · go_wp2_with fail
      go_ret
      exact ⟨ret_bool (decide_eq_true (by omega)), Grown.drew (Grown.refl _)⟩
  · have hM' : ((M : Int) != 0) = true := by simp [hM]
    have hsg' := hsg.out hM
    clear hM hsg
    rcases hsg' with ⟨s1, s2, s3⟩ | ⟨s1, s2, s3⟩ | ⟨s1, _, _⟩ | ⟨s1, _, _⟩
    rotate_left 2
    · exact absurd s1 (by decide)
    · exact absurd s1 (by decide)
    all_goals
      go_wp2_with fail
      refine (mul9 M B L _ (by omega) (by omega) (by omega) HL).mono ?_
      rintro e w' ⟨rfl, rfl⟩
      rcases hnear with ⟨g1, g2⟩ | ⟨g1, g2⟩
      · go_wp2_with fail
        go_ret
        exact ⟨ret_bool (decide_eq_true (by omega)), Grown.drew (Grown.refl _)⟩
      · go_wp2_with fail
        go_ret
        exact ⟨ret_bool (decide_eq_true (by omega)), Grown.drew (Grown.refl _)⟩

/-! ### STEP 1: THE WALK: the Go text returns true. 'Grown w w'': the world has at most new blocks (Derived/RowKit3.lean). Part the cases AHEAD of 'go_enter' where a test parts the walk; take each callee by a contract of your own. -/
theorem walk (a0 : Int) (a1 : Int) (w0 : (Lit.int .i64 a0).wf = true) (w1 : (Lit.int .i64 a1).wf = true) (w : World) :
    Calls Try.prog 3 #[.int .i64 a0, .int .i64 a1] w fun e w' => e = .returned (.bool true) ∧ Grown w w' := by
  have hb0 : -9223372036854775808 ≤ a0 ∧ a0 ≤ 9223372036854775807 := by simpa [Lit.wf, IntKind.min, IntKind.max, IntKind.signed, IntKind.bits] using w0
  have hb1 : -9223372036854775808 ≤ a1 ∧ a1 ≤ 9223372036854775807 := by simpa [Lit.wf, IntKind.min, IntKind.max, IntKind.signed, IntKind.bits] using w1
  obtain ⟨h0, h1⟩ := hb0
  obtain ⟨h2, h3⟩ := hb1
  clear w0 w1
  by_cases h4 : a1 = 0
  · subst h4
    go_enter Try.func3, Try.ntmps3
    go_wp2
    go_ret
    exact ⟨rfl, Grown.refl _⟩
  · by_cases hn : -9223372036854775808 < a0
    · exact walk_gen a0 a1 w h0 h1 h2 h3 h4 (by omega) (plain_test hn)
    · obtain rfl : a0 = -9223372036854775808 := by omega
      by_cases hm : a1 = -1
      · subst hm
        go_enter Try.func3, Try.ntmps3
        go_wp2_with fail
        refine (quo7_least _).mono ?_
        rintro e w' ⟨rfl, rfl⟩
        go_wp2_with fail
        go_ret
        exact ⟨rfl, Grown.drew (Grown.refl _)⟩
      · exact walk_least a1 w h2 h3 h4 hm

/-! ### THE ROW's STEP: WRITTEN OUT: LEAVE IT -/
set_option maxRecDepth 100000 in
theorem lifted (os : Os) (started : os.Started) (H : Type) (enc : TypeId × Value → H) :
    ReturnsInHanded {} Try.checked os 3 .any (Rows.fnQuoRound64NearestTiesAwaySpec.pre6 enc Try.prog Try.f3 Rows.fnQuoRound64NearestTiesAwayRow.domain false) (Rows.fnQuoRound64NearestTiesAwaySpec.post enc Try.prog Try.f3 false true false false) := by
  refine returnsInHanded_of_change (C := Try.checked) own started (by kernel_rfl) Try.func3
    (ChangeSpec.witness6 (enc := enc) (C := Try.checked) false ⟨#[], #[.int .i64 0, .int .i64 0], []⟩ 8 (by kernel_rfl) (by kernel_rfl) (by kernel_rfl) (by kernel_rfl)) ?_
  intro W base args ds gs before hval0 hW hcnd _
  have hval : ∀ (j : Nat) t v, Try.f3.params[j]? = some t → args[j]? = some v → Value.okWide Try.prog W .any base t v := hval0
  have hW' := hW
  obtain ⟨p, q, hA0, hV, rfl, hfz, hnd⟩ := hW
  have hA : DataW.TrodAll enc Try.prog W 0 (fun _ => true) true Try.f3.params.toList args.toList ds p := hA0
  rw [Try.params3] at hA hval
  obtain ⟨v0, vs0, d0, ds0, p0, q0, hargs, rfl, rfl, h0, r0⟩ := trodAll_cons hA
  obtain ⟨v1, vs1, d1, ds1, p1, q1, rfl, rfl, rfl, h1, r1⟩ := trodAll_cons r0
  obtain ⟨rfl, rfl, rfl⟩ := trodAll_nil r1
  obtain rfl : args = #[v0, v1] := by cases args; simp_all
  obtain ⟨rfl, rfl⟩ := trodVars_none hV
  obtain ⟨a0, rfl, rfl, rfl, w0⟩ := open_int Try.underlying2 (hval 0 2 v0 rfl rfl) h0
  obtain ⟨a1, rfl, rfl, rfl, w1⟩ := open_int Try.underlying2 (hval 1 2 v1 rfl rfl) h1
  clear hA0 hval0
  simp only [List.append_nil] at hW'
  refine (walk a0 a1 w0 w1 W).mono fun e W' ⟨he, hg⟩ => ?_
  subst he
  exact ⟨_, rfl, post_of_same (pa := []) (pv := []) hW' (fun _ _ _ => (trodAll_cons_mk (shut_bool Try.underlying4 _) trodAll_mk0)) (fun sp _ => (trodAll_cons_mk (shut_int Try.underlying2 w0) (trodAll_cons_mk (shut_int Try.underlying2 w1) trodAll_mk0))) (fun _ _ => rfl) rfl
    (hg.frame _) hg.2.1 (ok_one (by kernel_rfl) rfl (okWide_bool_mk Try.underlying4 _))⟩

theorem over : Rows.fnQuoRound64NearestTiesAwayRow.holds Try.pinned (OpenSpec.ofChange Rows.fnQuoRound64NearestTiesAwaySpec) :=
  OpenClaim.holds_of_wide 3 Try.f3 rfl rfl rfl rfl rfl rfl rfl ⟨rfl, rfl, rfl, rfl, rfl⟩ rfl rfl rfl rfl rfl (by kernel_rfl) Try.func3 (by kernel_rfl)
    (of_decide_eq_true (by kernel_rfl)) (by unfold Func.isWrapper; first | (rw [if_pos (by decide +kernel)]; kernel_rfl) | (rw [if_neg (by decide +kernel)]; exact ⟨rfl, rfl⟩))
    (fun os started H enc _ => lifted os started H enc)

/-- ████ THE STATEMENT ████ -/
theorem proved : Rows.FnQuoRound64NearestTiesAwaySaid :=
  over
end Go.Proofs.Qxb6605544a.fnQuoRound64NearestTiesAway
namespace Go.Proofs.Qxb6605544a
theorem fnQuoRound64NearestTiesAwayProved : Rows.FnQuoRound64NearestTiesAwaySaid := fnQuoRound64NearestTiesAway.proved
#print axioms fnQuoRound64NearestTiesAwayProved
end Go.Proofs.Qxb6605544a
