/-
  A PROOF OF 'Rows.FnAppendDigitsReadsDecimalTextSaid'. The frame ('lifted', 'over') is the guide's own template at this function's number and types, laid by its skeleton tool; the walk is ours.
-/
import Derived.Test.Qxb6605544aRows
import Derived.WalkKit
import Derived.ProofKit
import Derived.OpenShut
import Derived.ShutString
import Derived.Test.Qxb6605544aText
namespace Go.Proofs.Qxb6605544a.fnAppendDigitsReadsDecimalText
open Go.ChangeShapes Go.WideShapes Go.ChangeAt Go.RowKit
open Go.ChangeMaps (open_string shut_string)
set_option linter.unusedVariables false      -- a walk need not use every 'w<i>' (that an integer argument fits its kind)

theorem own : ownKnob Try.prog.godebug = none := by kernel_rfl

/-! ### THE PLAIN LAW, at the walk's own words -/
theorem size_of {t : ByteArray} {n : Nat} (h : t.data.toList = Math.decT n) : t.size = (Math.decT n).length := by rw [← h]; simp
theorem size_le {t : ByteArray} {n : Nat} (h : t.data.toList = Math.decT n) : t.size ≤ 20 := by rw [size_of h]; exact Math.decT_length n
theorem size_pos {t : ByteArray} {n : Nat} (h : t.data.toList = Math.decT n) : 0 < t.size := by
  rw [size_of h]; exact List.length_pos_iff.2 (Math.decT_ne n)
theorem append_data (a b : ByteArray) : (a ++ b).data.toList = a.data.toList ++ b.data.toList := by simp
theorem digits_of {l : List UInt8} (h : allD l = true) : ∀ c ∈ l, Math.isD c := by
  intro c hc
  have := List.all_eq_true.1 h c hc
  exact of_decide_eq_true (p := 48 ≤ c.toNat ∧ c.toNat ≤ 57) this
theorem plain (n : Nat) (s : ByteArray) (hn : n ≤ 9223372036854775807) (hd : allD s.data.toList = true) (hl : (Math.trimL (Math.decT n ++ s.data.toList)).length ≤ 18) :
    ∃ V : Nat, Math.adL n s.data.toList = V ∧ V ≤ 9223372036854775807 ∧ Math.decT V = Math.trimL (Math.decT n ++ s.data.toList) := by
  obtain ⟨V, h1, h2, h3⟩ := Math.reads n (Nat.lt_of_le_of_lt hn (by decide)) s.data.toList (digits_of hd) hl
  exact ⟨V, h1, by have : (10 : Nat) ^ 18 = 1000000000000000000 := by decide
                   omega, h3⟩

/-! ### STEP 1: THE WALK: the Go text returns true. 'Grown w w'': the world has at most new blocks (Derived/RowKit3.lean). Part the cases AHEAD of 'go_enter' where a test parts the walk; take each callee by a contract of your own. -/
theorem walk (a0 : Int) (a1 : ByteArray) (w0 : (Lit.int .i64 a0).wf = true) (w1 : a1.size ≤ maxLen) (w : World) :
    Calls Try.prog 6 #[.int .i64 a0, .string a1] w fun e w' => e = .returned (.bool true) ∧ Grown w w' := by
  unfold maxLen at w1
  have hb0 : -9223372036854775808 ≤ a0 ∧ a0 ≤ 9223372036854775807 := by simpa [Lit.wf, IntKind.min, IntKind.max, IntKind.signed, IntKind.bits] using w0
  obtain ⟨h0, h1⟩ := hb0
  clear w0
  by_cases hs : a1.size ≤ 1048576
  · clear w1
    by_cases hn : a0 < 0
    · go_enter Try.func6, Try.ntmps6
      go_wp2_with (first | (go_at_call 15; refine (zzBytes15_in _ _ _ hs).mono ?_; rintro e w' ⟨rfl, rfl⟩))
      go_ret
      exact ⟨rfl, Grown.refl _⟩
    · obtain ⟨n, rfl⟩ : ∃ n : Nat, a0 = n := ⟨a0.toNat, by omega⟩
      have hn0 : n ≤ 9223372036854775807 := by omega
      have hdn : decide ((n : Int) < 0) = false := decide_eq_false (by omega)
      clear hn h0 h1
      cases hd : allD a1.data.toList
      · go_enter Try.func6, Try.ntmps6
        go_wp2_with (first | (go_at_call 15; refine (zzBytes15_in _ _ _ hs).mono ?_; rintro e w' ⟨rfl, rfl⟩) | (go_at_call 16; refine (only16 _ _ hs).mono ?_; rintro e w' ⟨rfl, rfl⟩))
        go_ret
        exact ⟨rfl, Grown.refl _⟩
      · have HP := hid (plain n a1 hn0 hd)
        go_enter Try.func6, Try.ntmps6
        go_wp2_with (first | (go_at_call 15; refine (zzBytes15_in _ _ _ hs).mono ?_; rintro e w' ⟨rfl, rfl⟩) | (go_at_call 16; refine (only16 _ _ hs).mono ?_; rintro e w' ⟨rfl, rfl⟩))
        refine (dec18_any n _ hn0).mono ?_
        rintro e w1 ⟨t, rfl, hg1, ht⟩
        have HG1 := hid hg1
        have HT := hid ht
        have hts : t.size ≤ 20 := size_le ht
        have htp : 0 < t.size := size_pos ht
        clear hg1 ht
        go_wp2_with fail
        refine (trim17 (t ++ a1) _ (by rw [ByteArray.size_append]; omega) (by rw [ByteArray.size_append]; omega)).mono ?_
        rintro e w2 ⟨t2, rfl, rfl, ht2⟩
        have hT2 : t2.data.toList = Math.trimL (Math.decT n ++ a1.data.toList) := by rw [ht2, append_data, HT.out]
        have hz2 : t2.size = (Math.trimL (Math.decT n ++ a1.data.toList)).length := by rw [← hT2]; simp
        have HT2 := hid hT2
        have HZ2 := hid hz2
        clear ht2 hT2 hz2 HT
        by_cases hl : t2.size ≤ 18
        · obtain ⟨V, hV, hVb, hVt⟩ := HP.out (by rw [← HZ2.out]; exact hl)
          have HV := hid hVt
          clear hVt HP HZ2
          go_wp2_with (first | (go_at_call 14; refine (append14 _ _ _ hs).mono ?_; rintro e w' ⟨rfl, rfl⟩))
          refine (dec18_any V _ hVb).mono ?_
          rintro e w3 ⟨t3, rfl, hg3, ht3⟩
          have HE : (t3.toList == t2.toList) = true := by
            rw [ByteArray.toList_eq, ByteArray.toList_eq, ht3, HT2.out, HV.out]; simp
          have HG3 := hid hg3
          clear hg3 ht3
          go_wp2_with fail
          go_ret
          exact ⟨rfl, Grown_trans HG1.out HG3.out⟩
        · go_wp2_with fail
          go_ret
          exact ⟨rfl, HG1.out⟩
  · go_enter Try.func6, Try.ntmps6
    go_wp2_with (first | (go_at_call 15; refine (zzBytes15_out _ _ _ (by omega) (by unfold maxLen; omega)).mono ?_; rintro e w' ⟨rfl, rfl⟩))
    go_ret
    exact ⟨rfl, Grown.refl _⟩

/-! ### THE ROW's STEP: WRITTEN OUT: LEAVE IT -/
set_option maxRecDepth 100000 in
theorem lifted (os : Os) (started : os.Started) (H : Type) (enc : TypeId × Value → H) :
    ReturnsInHanded {} Try.checked os 6 .any (Rows.fnAppendDigitsReadsDecimalTextSpec.pre6 enc Try.prog Try.f6 Rows.fnAppendDigitsReadsDecimalTextRow.domain false) (Rows.fnAppendDigitsReadsDecimalTextSpec.post enc Try.prog Try.f6 false true false false) := by
  refine returnsInHanded_of_change (C := Try.checked) own started (by kernel_rfl) Try.func6
    (ChangeSpec.witness6 (enc := enc) (C := Try.checked) false ⟨#[], #[.int .i64 0, .string ByteArray.empty], []⟩ 8 (by kernel_rfl) (by kernel_rfl) (by kernel_rfl) (by kernel_rfl)) ?_
  intro W base args ds gs before hval0 hW hcnd _
  have hval : ∀ (j : Nat) t v, Try.f6.params[j]? = some t → args[j]? = some v → Value.okWide Try.prog W .any base t v := hval0
  have hW' := hW
  obtain ⟨p, q, hA0, hV, rfl, hfz, hnd⟩ := hW
  have hA : DataW.TrodAll enc Try.prog W 0 (fun _ => true) true Try.f6.params.toList args.toList ds p := hA0
  rw [Try.params6] at hA hval
  obtain ⟨v0, vs0, d0, ds0, p0, q0, hargs, rfl, rfl, h0, r0⟩ := trodAll_cons hA
  obtain ⟨v1, vs1, d1, ds1, p1, q1, rfl, rfl, rfl, h1, r1⟩ := trodAll_cons r0
  obtain ⟨rfl, rfl, rfl⟩ := trodAll_nil r1
  obtain rfl : args = #[v0, v1] := by cases args; simp_all
  obtain ⟨rfl, rfl⟩ := trodVars_none hV
  obtain ⟨a0, rfl, rfl, rfl, w0⟩ := open_int Try.underlying2 (hval 0 2 v0 rfl rfl) h0
  obtain ⟨a1, rfl, rfl, rfl, w1⟩ := open_string Try.underlying9 (hval 1 9 v1 rfl rfl) h1
  clear hA0 hval0
  simp only [List.append_nil] at hW'
  refine (walk a0 a1 w0 w1 W).mono fun e W' ⟨he, hg⟩ => ?_
  subst he
  exact ⟨_, rfl, post_of_same (pa := []) (pv := []) hW' (fun _ _ _ => (trodAll_cons_mk (shut_bool Try.underlying4 _) trodAll_mk0)) (fun sp _ => (trodAll_cons_mk (shut_int Try.underlying2 w0) (trodAll_cons_mk (shut_string Try.underlying9 w1) trodAll_mk0))) (fun _ _ => rfl) rfl
    (hg.frame _) hg.2.1 (ok_one (by kernel_rfl) rfl (okWide_bool_mk Try.underlying4 _))⟩

theorem over : Rows.fnAppendDigitsReadsDecimalTextRow.holds Try.pinned (OpenSpec.ofChange Rows.fnAppendDigitsReadsDecimalTextSpec) :=
  OpenClaim.holds_of_wide 6 Try.f6 rfl rfl rfl rfl rfl rfl rfl ⟨rfl, rfl, rfl, rfl, rfl⟩ rfl rfl rfl rfl rfl (by kernel_rfl) Try.func6 (by kernel_rfl)
    (of_decide_eq_true (by kernel_rfl)) (by unfold Func.isWrapper; first | (rw [if_pos (by decide +kernel)]; kernel_rfl) | (rw [if_neg (by decide +kernel)]; exact ⟨rfl, rfl⟩))
    (fun os started H enc _ => lifted os started H enc)

/-- ████ THE STATEMENT ████ -/
theorem proved : Rows.FnAppendDigitsReadsDecimalTextSaid :=
  over
end Go.Proofs.Qxb6605544a.fnAppendDigitsReadsDecimalText
namespace Go.Proofs.Qxb6605544a
theorem fnAppendDigitsReadsDecimalTextProved : Rows.FnAppendDigitsReadsDecimalTextSaid := fnAppendDigitsReadsDecimalText.proved
#print axioms fnAppendDigitsReadsDecimalTextProved
end Go.Proofs.Qxb6605544a
