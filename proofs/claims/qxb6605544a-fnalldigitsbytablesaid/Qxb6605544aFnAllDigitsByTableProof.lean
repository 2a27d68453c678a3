/-
  A PROOF OF 'Rows.FnAllDigitsByTableSaid'. The frame ('lifted', 'over') is the guide's own template at this function's number and types, laid by its skeleton tool; the walk is ours.
-/
import Derived.Test.Qxb6605544aRows
import Derived.WalkKit
import Derived.ProofKit
import Derived.OpenShut
import Derived.ShutString
import Derived.Test.Qxb6605544aDigits
import Derived.Lib.IndexBytes
namespace Go.Proofs.Qxb6605544a.fnAllDigitsByTable
open Go.ChangeShapes Go.WideShapes Go.ChangeAt Go.RowKit
open Go.ChangeMaps (open_string shut_string)
set_option linter.unusedVariables false      -- a walk need not use every 'w<i>' (that an integer argument fits its kind)

theorem own : ownKnob Try.prog.godebug = none := by kernel_rfl

/-! ### THE PLAIN LAW -/
/-- How many bytes are digits. -/
def cntD : List UInt8 → Nat
  | [] => 0
  | c :: l => cntD l + if isDig c.toNat = true then 1 else 0
theorem cntD_append (l m : List UInt8) : cntD (l ++ m) = cntD l + cntD m := by
  induction l with
  | nil => simp [cntD]
  | cons c l ih => simp only [List.cons_append, cntD, ih]; omega
theorem cntD_le (l : List UInt8) : cntD l ≤ l.length := by
  induction l with
  | nil => simp [cntD]
  | cons c l ih => simp only [cntD, List.length_cons]; split <;> omega
theorem cntD_all (l : List UInt8) : (cntD l = l.length) ↔ allD l = true := by
  induction l with
  | nil => simp [cntD, allD]
  | cons c l ih =>
    have hle := cntD_le l
    have e : allD (c :: l) = (isDig c.toNat && allD l) := rfl
    rw [e, Bool.and_eq_true, ← ih]
    simp only [cntD, List.length_cons]
    by_cases h : isDig c.toNat = true
    · rw [if_pos h]; constructor
      · intro g; exact ⟨h, by omega⟩
      · intro g; omega
    · rw [if_neg h]; constructor
      · intro g; omega
      · intro g; exact absurd g.1 h
theorem cntD_take_succ (s : ByteArray) (k : Nat) (h : k < s.size) : cntD (s.data.toList.take (k + 1)) = cntD (s.data.toList.take k) + if isDig s[k].toNat = true then 1 else 0 := by
  rw [take_snoc s k h, cntD_append]; simp [cntD]
theorem cntD_take_le (s : ByteArray) (k : Nat) : cntD (s.data.toList.take k) ≤ k :=
  Nat.le_trans (cntD_le _) (List.length_take_le _ _)

theorem allDig_count {s : ByteArray} (h : s.size ≠ 0) : ((cntD s.data.toList : Int) == (s.size : Int)) = allDig s := by
  rw [allDig_of h, Bool.eq_iff_iff, ← cntD_all, beq_iff_eq]
  have e : s.data.toList.length = s.size := by simp
  rw [e]
  omega

theorem allDig_halves (s : ByteArray) (h : 2 ≤ s.size) : allDig s = (allDig (s.extract 0 (s.size / 2)) && allDig (s.extract (s.size / 2) s.size)) := by
  rw [allDig_of (by omega), allDig_of (by rw [ByteArray.size_extract]; omega), allDig_of (by rw [ByteArray.size_extract]; omega)]
  rw [Lib.extract_data, Lib.extract_to_end]
  have e : s.data.toList = s.data.toList.take (s.size / 2) ++ s.data.toList.drop (s.size / 2) := (List.take_append_drop _ _).symm
  unfold allD
  rw [List.drop_zero, Nat.sub_zero, ← List.all_append, ← e]

/-! ### STEP 1: THE WALK: the Go text returns true. 'Grown w w'': the world has at most new blocks (Derived/RowKit3.lean). Part the cases AHEAD of 'go_enter' where a test parts the walk; take each callee by a contract of your own. -/
theorem walk (a0 : ByteArray) (w0 : a0.size ≤ maxLen) (w : World) :
    Calls Try.prog 4 #[.string a0] w fun e w' => e = .returned (.bool true) ∧ Grown w w' := by
  unfold maxLen at w0
  by_cases hs : a0.size ≤ 1048576
  · clear w0
    go_enter Try.func4, Try.ntmps4
    go_wp2_with (first | (go_at_call 10; refine (zzBytes10_in _ _ hs).mono ?_; rintro e w' ⟨rfl, rfl⟩) | (go_at_call 11; refine (all11 _ _ hs).mono ?_; rintro e w' ⟨rfl, rfl⟩))
    go_loop [4, 5] (fun c i => ∃ k : Nat, k ≤ a0.size ∧ i = .int .i64 k ∧ c = .int .i64 (cntD (a0.data.toList.take k) : Nat)) (fun _ i => a0.size - (ival i).toNat)
    case atStart => exact ⟨0, Nat.zero_le _, rfl, rfl⟩
    case round =>
      obtain ⟨k, hk, rfl, rfl⟩ := hrel
      have hc := cntD_take_le a0 k
      by_cases hlt : k < a0.size
      · have HS : Hid (cntD (a0.data.toList.take (k + 1)) = cntD (a0.data.toList.take k) + if isDig a0[k].toNat = true then 1 else 0) := cntD_take_succ a0 k hlt
        cases hd : isDig a0[k].toNat
        · go_wp2_with (first | (go_at_call 12; refine (table12 _ _).mono ?_; rintro e w' ⟨rfl, rfl⟩))
          go_round
          case rel => exact ⟨k + 1, by omega, by go_num, val_int (by rw [HS.out, hd]; rfl)⟩
          case measure => simp [ival]; omega
        · go_wp2_with (first | (go_at_call 12; refine (table12 _ _).mono ?_; rintro e w' ⟨rfl, rfl⟩))
          go_round
          case rel => exact ⟨k + 1, by omega, by go_num, val_int (by rw [HS.out, hd]; rfl)⟩
          case measure => simp [ival]; omega
      · obtain rfl : k = a0.size := by omega
        rw [take_all a0 a0.size (Nat.le_refl _)] at hc
        by_cases hz : a0.size = 0
        · have hg := allDig_empty hz
          rw [take_all a0 a0.size (Nat.le_refl _)]
          have hp : ¬ 0 < a0.size := by omega
          clear hz
          go_wp2_with fail
          go_ret
          exact ⟨rfl, Grown.refl _⟩
        · rw [take_all a0 a0.size (Nat.le_refl _)]
          have hg := allDig_count hz
          have hp : 0 < a0.size := by omega
          clear hz
          by_cases h2 : 2 ≤ a0.size
          · have hh := allDig_halves a0 h2
            cases hA : allDig (a0.extract 0 (a0.size / 2))
            · rw [hA, Bool.false_and] at hh
              rw [hh] at hg
              go_wp2_with (first | (go_at_call 11; refine (all11 _ _ ?_).mono ?_; (rw [ByteArray.size_extract]; omega); rintro e w' ⟨rfl, rfl⟩))
              go_ret
              exact ⟨rfl, Grown.refl _⟩
            · rw [hA, Bool.true_and] at hh
              cases hB : allDig (a0.extract (a0.size / 2) a0.size)
              all_goals
                rw [hB] at hh
                rw [hh] at hg
                go_wp2_with (first | (go_at_call 11; refine (all11 _ _ ?_).mono ?_; (rw [ByteArray.size_extract]; omega); rintro e w' ⟨rfl, rfl⟩))
                go_ret
                exact ⟨rfl, Grown.refl _⟩
          · cases hA : allDig a0
            · rw [hA] at hg
              go_wp2_with fail
              go_ret
              exact ⟨rfl, Grown.refl _⟩
            · rw [hA] at hg
              go_wp2_with fail
              go_ret
              exact ⟨rfl, Grown.refl _⟩
  · go_enter Try.func4, Try.ntmps4
    go_wp2_with (first | (go_at_call 10; refine (zzBytes10_out _ _ (by omega) (by unfold maxLen; omega)).mono ?_; rintro e w' ⟨rfl, rfl⟩))
    go_ret
    exact ⟨rfl, Grown.refl _⟩

/-! ### THE ROW's STEP: WRITTEN OUT: LEAVE IT -/
set_option maxRecDepth 100000 in
theorem lifted (os : Os) (started : os.Started) (H : Type) (enc : TypeId × Value → H) :
    ReturnsInHanded {} Try.checked os 4 .any (Rows.fnAllDigitsByTableSpec.pre6 enc Try.prog Try.f4 Rows.fnAllDigitsByTableRow.domain false) (Rows.fnAllDigitsByTableSpec.post enc Try.prog Try.f4 false true false false) := by
  refine returnsInHanded_of_change (C := Try.checked) own started (by kernel_rfl) Try.func4
    (ChangeSpec.witness6 (enc := enc) (C := Try.checked) false ⟨#[], #[.string ByteArray.empty], []⟩ 8 (by kernel_rfl) (by kernel_rfl) (by kernel_rfl) (by kernel_rfl)) ?_
  intro W base args ds gs before hval0 hW hcnd _
  have hval : ∀ (j : Nat) t v, Try.f4.params[j]? = some t → args[j]? = some v → Value.okWide Try.prog W .any base t v := hval0
  have hW' := hW
  obtain ⟨p, q, hA0, hV, rfl, hfz, hnd⟩ := hW
  have hA : DataW.TrodAll enc Try.prog W 0 (fun _ => true) true Try.f4.params.toList args.toList ds p := hA0
  rw [Try.params4] at hA hval
  obtain ⟨v0, vs0, d0, ds0, p0, q0, hargs, rfl, rfl, h0, r0⟩ := trodAll_cons hA
  obtain ⟨rfl, rfl, rfl⟩ := trodAll_nil r0
  obtain rfl : args = #[v0] := by cases args; simp_all
  obtain ⟨rfl, rfl⟩ := trodVars_none hV
  obtain ⟨a0, rfl, rfl, rfl, w0⟩ := open_string Try.underlying9 (hval 0 9 v0 rfl rfl) h0
  clear hA0 hval0
  simp only [List.append_nil] at hW'
  refine (walk a0 w0 W).mono fun e W' ⟨he, hg⟩ => ?_
  subst he
  exact ⟨_, rfl, post_of_same (pa := []) (pv := []) hW' (fun _ _ _ => (trodAll_cons_mk (shut_bool Try.underlying4 _) trodAll_mk0)) (fun sp _ => (trodAll_cons_mk (shut_string Try.underlying9 w0) trodAll_mk0)) (fun _ _ => rfl) rfl
    (hg.frame _) hg.2.1 (ok_one (by kernel_rfl) rfl (okWide_bool_mk Try.underlying4 _))⟩

theorem over : Rows.fnAllDigitsByTableRow.holds Try.pinned (OpenSpec.ofChange Rows.fnAllDigitsByTableSpec) :=
  OpenClaim.holds_of_wide 4 Try.f4 rfl rfl rfl rfl rfl rfl rfl ⟨rfl, rfl, rfl, rfl, rfl⟩ rfl rfl rfl rfl rfl (by kernel_rfl) Try.func4 (by kernel_rfl)
    (of_decide_eq_true (by kernel_rfl)) (by unfold Func.isWrapper; first | (rw [if_pos (by decide +kernel)]; kernel_rfl) | (rw [if_neg (by decide +kernel)]; exact ⟨rfl, rfl⟩))
    (fun os started H enc _ => lifted os started H enc)

/-- ████ THE STATEMENT ████ -/
theorem proved : Rows.FnAllDigitsByTableSaid :=
  over
end Go.Proofs.Qxb6605544a.fnAllDigitsByTable
namespace Go.Proofs.Qxb6605544a
theorem fnAllDigitsByTableProved : Rows.FnAllDigitsByTableSaid := fnAllDigitsByTable.proved
#print axioms fnAllDigitsByTableProved
end Go.Proofs.Qxb6605544a
