/-
  A PROOF OF 'Rows.FnAppendDigitsPositionalSumSaid'. The frame ('lifted', 'over') is the guide's own template at this function's number and types, laid by its skeleton tool; the walk is ours.
-/
import Derived.Test.Qxb6605544aRows
import Derived.WalkKit
import Derived.ProofKit
import Derived.OpenShut
import Derived.ShutString
import Derived.Test.Qxb6605544aAppend
namespace Go.Proofs.Qxb6605544a.fnAppendDigitsPositionalSum
open Go.ChangeShapes Go.WideShapes Go.ChangeAt Go.RowKit
open Go.ChangeMaps (open_string shut_string)
set_option linter.unusedVariables false      -- a walk need not use every 'w<i>' (that an integer argument fits its kind)

theorem own : ownKnob Try.prog.godebug = none := by kernel_rfl

/-! ### STEP 1: THE WALK: the Go text returns true. 'Grown w w'': the world has at most new blocks (Derived/RowKit3.lean). Part the cases AHEAD of 'go_enter' where a test parts the walk; take each callee by a contract of your own. -/
theorem walk (a0 : Int) (a1 : ByteArray) (w0 : (Lit.int .i64 a0).wf = true) (w1 : a1.size ≤ maxLen) (w : World) :
    Calls Try.prog 5 #[.int .i64 a0, .string a1] w fun e w' => e = .returned (.bool true) ∧ Grown w w' := by
  unfold maxLen at w1
  have hb0 : -9223372036854775808 ≤ a0 ∧ a0 ≤ 9223372036854775807 := by simpa [Lit.wf, IntKind.min, IntKind.max, IntKind.signed, IntKind.bits] using w0
  by_cases hs : a1.size ≤ 1048576
  · have HL : Hid (Math.adL a0 a1.data.toList = wrap64 (wrap64 (a0 * Math.powL a1.data.toList) + Math.sumL a1.data.toList)) := Math.adL_sum _ _ hb0.1 hb0.2
    clear hb0 w0 w1
    go_enter Try.func5, Try.ntmps5
    go_wp2_with (first | (go_at_call 13; refine (zzBytes13_in _ _ _ hs).mono ?_; rintro e w' ⟨rfl, rfl⟩) | (go_at_call 14; refine (append14 _ _ _ hs).mono ?_; rintro e w' ⟨rfl, rfl⟩))
    go_loop [6, 7, 8] (fun sm pw i => ∃ k : Nat, k ≤ a1.size ∧ i = .int .i64 ((k : Int) - 1) ∧ sm = .int .i64 (Math.sumL (a1.data.toList.drop k)) ∧ pw = .int .i64 (Math.powL (a1.data.toList.drop k))) (fun _ _ i => (ival i + 1).toNat)
    case atStart => exact ⟨a1.size, Nat.le_refl _, rfl, by rw [drop_all a1 _ (Nat.le_refl _)]; rfl, by rw [drop_all a1 _ (Nat.le_refl _)]; rfl⟩
    case round =>
      obtain ⟨k, hk, rfl, rfl, rfl⟩ := hrel
      by_cases hlt : 0 < k
      · obtain ⟨j, rfl⟩ : ∃ j, k = j + 1 := ⟨k - 1, by omega⟩
        have hj : j < a1.size := by omega
        go_wp2
        go_round
        case rel =>
          refine ⟨j, by omega, by go_num, val_int ?_, val_int ?_⟩
          · rw [drop_cons a1 j hj]; rfl
          · rw [drop_cons a1 j hj]; rfl
        case measure => simp [ival]
      · obtain rfl : k = 0 := by omega
        go_wp2
        go_ret
        refine ⟨ret_bool ?_, Grown.refl _⟩
        rw [HL.out]
        exact decide_eq_true rfl
  · go_enter Try.func5, Try.ntmps5
    go_wp2_with (first | (go_at_call 13; refine (zzBytes13_out _ _ _ (by omega) (by unfold maxLen; omega)).mono ?_; rintro e w' ⟨rfl, rfl⟩))
    go_ret
    exact ⟨rfl, Grown.refl _⟩

/-! ### THE ROW's STEP: WRITTEN OUT: LEAVE IT -/
set_option maxRecDepth 100000 in
theorem lifted (os : Os) (started : os.Started) (H : Type) (enc : TypeId × Value → H) :
    ReturnsInHanded {} Try.checked os 5 .any (Rows.fnAppendDigitsPositionalSumSpec.pre6 enc Try.prog Try.f5 Rows.fnAppendDigitsPositionalSumRow.domain false) (Rows.fnAppendDigitsPositionalSumSpec.post enc Try.prog Try.f5 false true false false) := by
  refine returnsInHanded_of_change (C := Try.checked) own started (by kernel_rfl) Try.func5
    (ChangeSpec.witness6 (enc := enc) (C := Try.checked) false ⟨#[], #[.int .i64 0, .string ByteArray.empty], []⟩ 8 (by kernel_rfl) (by kernel_rfl) (by kernel_rfl) (by kernel_rfl)) ?_
  intro W base args ds gs before hval0 hW hcnd _
  have hval : ∀ (j : Nat) t v, Try.f5.params[j]? = some t → args[j]? = some v → Value.okWide Try.prog W .any base t v := hval0
  have hW' := hW
  obtain ⟨p, q, hA0, hV, rfl, hfz, hnd⟩ := hW
  have hA : DataW.TrodAll enc Try.prog W 0 (fun _ => true) true Try.f5.params.toList args.toList ds p := hA0
  rw [Try.params5] at hA hval
  obtain ⟨v0, vs0, d0, ds0, p0, q0, hargs, rfl, rfl, h0, r0⟩ := trodAll_cons hA
  obtain ⟨v1, vs1, d1, ds1, p1, q1, rfl, rfl, rfl, h1, r1⟩ := trodAll_cons r0
  obtain ⟨rfl, rfl, rfl⟩ := trodAll_nil r1
  obtain rfl : args = #[v0, v1] := by cases args; simp_all
  obtain ⟨rfl, rfl⟩ := trodVars_none hV
  obtain ⟨a0, rfl, rfl, rfl, w0⟩ := open_int Try.underlying2 (hval 0 2 v0 rfl rfl) h0
  obtain ⟨a1, rfl, rfl, rfl, w1⟩ := open_string Try.underlying9 (hval 1 9 v1 rfl rfl) h1
  clear hA0 hval0
  simp only [List.append_nil] at hW'
  refine (walk a0 a1 w0 w1 W).mono fun e W' ⟨he, hg⟩ => ?_
  subst he
  exact ⟨_, rfl, post_of_same (pa := []) (pv := []) hW' (fun _ _ _ => (trodAll_cons_mk (shut_bool Try.underlying4 _) trodAll_mk0)) (fun sp _ => (trodAll_cons_mk (shut_int Try.underlying2 w0) (trodAll_cons_mk (shut_string Try.underlying9 w1) trodAll_mk0))) (fun _ _ => rfl) rfl
    (hg.frame _) hg.2.1 (ok_one (by kernel_rfl) rfl (okWide_bool_mk Try.underlying4 _))⟩

theorem over : Rows.fnAppendDigitsPositionalSumRow.holds Try.pinned (OpenSpec.ofChange Rows.fnAppendDigitsPositionalSumSpec) :=
  OpenClaim.holds_of_wide 5 Try.f5 rfl rfl rfl rfl rfl rfl rfl ⟨rfl, rfl, rfl, rfl, rfl⟩ rfl rfl rfl rfl rfl (by kernel_rfl) Try.func5 (by kernel_rfl)
    (of_decide_eq_true (by kernel_rfl)) (by unfold Func.isWrapper; first | (rw [if_pos (by decide +kernel)]; kernel_rfl) | (rw [if_neg (by decide +kernel)]; exact ⟨rfl, rfl⟩))
    (fun os started H enc _ => lifted os started H enc)

/-- ████ THE STATEMENT ████ -/
theorem proved : Rows.FnAppendDigitsPositionalSumSaid :=
  over
end Go.Proofs.Qxb6605544a.fnAppendDigitsPositionalSum
namespace Go.Proofs.Qxb6605544a
theorem fnAppendDigitsPositionalSumProved : Rows.FnAppendDigitsPositionalSumSaid := fnAppendDigitsPositionalSum.proved
#print axioms fnAppendDigitsPositionalSumProved
end Go.Proofs.Qxb6605544a
