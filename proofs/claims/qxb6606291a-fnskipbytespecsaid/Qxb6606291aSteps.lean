/-
  SEAT b6606291a: FnSkipByteStepsThroughEveryToken: its plain law, sjb1IsJSONSpace, the walk.
-/
import Derived.Test.Qxb6606291aClose
namespace Go.Proofs.Qxb6606291a
open Go.RowKit

/-! ### The plain law -/
/-- How many of the first n bytes are no whitespace. -/
def nsp (f : Nat → Int) : Nat → Nat
  | 0 => 0
  | n + 1 => nsp f n + if isSp (f n) = true then 0 else 1
theorem nsp_le (f : Nat → Int) (n : Nat) : nsp f n ≤ n := by
  induction n with
  | zero => exact Nat.le_refl _
  | succ n ih => simp only [nsp]; split <;> omega
theorem nsp_space {f : Nat → Int} {n : Nat} (h : isSp (f n) = true) : nsp f (n + 1) = nsp f n := by simp only [nsp]; rw [if_pos h]; omega
theorem nsp_other {f : Nat → Int} {n : Nat} (h : isSp (f n) = false) : nsp f (n + 1) = nsp f n + 1 := by simp only [nsp]; rw [if_neg (by rw [h]; decide)]
theorem nsp_mono (f : Nat → Int) {a b : Nat} (h : a ≤ b) : nsp f a ≤ nsp f b := by
  induction b with
  | zero => rw [show a = 0 by omega]; exact Nat.le_refl _
  | succ b ih =>
    by_cases e : a = b + 1
    · rw [e]; exact Nat.le_refl _
    · have := ih (by omega)
      have h2 : nsp f b ≤ nsp f (b + 1) := by simp only [nsp]; omega
      omega
theorem nsp_stop {f : Nat → Int} {len p q : Nat} (S : Stop f len p q) : nsp f q = nsp f p := by
  have key : ∀ d, p + d ≤ q → nsp f (p + d) = nsp f p := by
    intro d
    induction d with
    | zero => intro _; rfl
    | succ d ih =>
      intro h
      rw [← Nat.add_assoc, nsp_space (S.space (p + d) (by omega) (by omega)).2]
      exact ih (by omega)
  have := key (q - p) (by have := S.le; omega)
  rwa [show p + (q - p) = q by have := S.le; omega] at this
theorem Stop.in_len {f : Nat → Int} {len p q : Nat} (S : Stop f len p q) (h : p ≤ len) : q ≤ len := by
  apply Nat.le_of_not_lt
  intro hq
  exact absurd (S.space len h hq).1 (Nat.lt_irrefl _)
/-- While tokens are left the reader rests at one. -/
theorem steps_more {f : Nat → Int} {len p q : Nat} (S : Stop f len p q) (h : p ≤ len) (hl : nsp f p < nsp f len) : q < len ∧ nsp f (q + 1) = nsp f p + 1 := by
  have h1 := S.in_len h
  have h2 := nsp_stop S
  have h3 : q < len := by
    apply Nat.lt_of_le_of_ne h1
    intro e
    rw [e] at h2
    omega
  exact ⟨h3, by rw [nsp_other (S.rest h3), h2]⟩
/-- When none is left it rests at the end. -/
theorem steps_done {f : Nat → Int} {len p q : Nat} (S : Stop f len p q) (h : p ≤ len) (hl : nsp f p = nsp f len) : q = len := by
  have h1 := S.in_len h
  have h2 := nsp_stop S
  apply Nat.le_antisymm h1
  apply Nat.le_of_not_lt
  intro h3
  have h4 := nsp_mono f (show q + 1 ≤ len from h3)
  rw [nsp_other (S.rest h3), h2] at h4
  omega

/-! ### The walks -/
set_option maxHeartbeats 400000 in
theorem space19 (c : Int) (w : World) :
    Calls Try.prog 19 #[.int .u8 c] w fun e w' => e = .returned (.bool (isSp c)) ∧ w' = w := by
  cases hs : isSp c
  · obtain ⟨c1, c2, c3, c4⟩ := isSp_no hs
    clear hs
    go_enter Try.func19, Try.ntmps19
    go_wp2
    go_ret
    exact ⟨rfl, rfl⟩
  · have hc := isSp_yes hs
    clear hs
    rcases hc with c1 | ⟨c1, c2⟩ | ⟨c1, c2, c3⟩ | ⟨c1, c2, c3, c4⟩
    all_goals
      go_enter Try.func19, Try.ntmps19
      go_wp2
      go_ret
      exact ⟨rfl, rfl⟩
theorem zzBytes18_in (a : Option Addr) (len cap : Nat) (w : World) (h : len ≤ 1048576) :
    Calls Try.prog 18 #[.slice a len cap] w fun e w' => e = .returned (.bool true) ∧ w' = w := by
  go_enter Try.func18, Try.ntmps18
  go_wp2
  go_ret
  exact ⟨rfl, rfl⟩
theorem zzBytes18_out (a : Option Addr) (len cap : Nat) (w : World) (h : 1048576 < len) (h1 : len ≤ 9223372036854775807) :
    Calls Try.prog 18 #[.slice a len cap] w fun e w' => e = .returned (.bool false) ∧ w' = w := by
  go_enter Try.func18, Try.ntmps18
  go_wp2
  go_ret
  exact ⟨rfl, rfl⟩

set_option maxHeartbeats 2000000 in
theorem steps6 (w : World) (a : Option Addr) (len cap : Nat) (f : Nat → Int) (hlen : len ≤ 1048576) (hs : Src w a len f) :
    Calls Try.prog 6 #[.slice a len cap] w fun e w' => e = .returned (.bool true) ∧ Below w.heap.size w w' := by
  have HSrc := hid hs
  clear hs
  go_enter Try.func6, Try.ntmps6
  go_wp2_with (first | (go_at_call 18; refine (zzBytes18_in _ _ _ _ hlen).mono ?_; rintro e w ⟨rfl, rfl⟩))
  go_loop [3] (fun i => ∃ k : Nat, k ≤ len ∧ i = .int .i64 k ∧ ∀ j, j < k → f j ≠ 0) (fun i => len - (ival i).toNat)
  case atStart => exact ⟨0, Nat.zero_le _, rfl, fun j hj => absurd hj (by omega)⟩
  case round =>
    obtain ⟨k, hk, rfl, hz⟩ := hrel
    have HZ := hid hz
    clear hz
    by_cases hlt : k < len
    · rcases HSrc.out with ⟨_, h0⟩ | ⟨xb, xo, xs, rfl, hc0⟩
      · exact absurd hlt (by omega)
      · obtain ⟨rfl, hb, hc⟩ := hc0 k hlt
        clear hc0
        cases hfk : (f k == 0)
        · go_wp2_with fail
          go_round
          case rel =>
            refine ⟨k + 1, by omega, by go_num, fun j hj => ?_⟩
            by_cases e : j = k
            · subst e; simpa using hfk
            · exact HZ.out j (by omega)
          case measure => simp [ival]; omega
        · go_wp2_with fail
          go_ret
          exact ⟨rfl, Below.refl _ _⟩
    · obtain rfl : k = len := by omega
      go_wp2_with fail
      refine (clone13 _ _ _ _ f hlen HSrc.out).mono ?_
      rintro e w1 ⟨ta, cap', rfl, hb, hT⟩
      have HB := hid hb
      have HT := hid hT
      clear hb hT HSrc
      go_wp2_with fail
      go_loop [4, 5] (fun m i => ∃ j : Nat, j ≤ k ∧ i = .int .i64 j ∧ m = .int .i64 (nsp f j : Nat)) (fun _ i => k - (ival i).toNat)
      case atStart => exact ⟨0, Nat.zero_le _, rfl, rfl⟩
      case round =>
        obtain ⟨j, hj, rfl, rfl⟩ := hrel
        have hnj := nsp_le f j
        by_cases hjt : j < k
        · obtain ⟨t, ht, rfl, hc⟩ := HT.out j hjt
          cases hsp : isSp (f j)
          · have HN := hid (nsp_other hsp)
            go_wp2_with (first | (go_at_call 19; refine (space19 _ _).mono ?_; rintro e w' ⟨rfl, rfl⟩))
            go_round
            case rel => exact ⟨j + 1, by omega, by go_num, val_int (by rw [HN.out]; omega)⟩
            case measure => simp [ival]; omega
          · have HN := hid (nsp_space hsp)
            go_wp2_with (first | (go_at_call 19; refine (space19 _ _).mono ?_; rintro e w' ⟨rfl, rfl⟩))
            go_round
            case rel => exact ⟨j + 1, by omega, by go_num, val_int (by rw [HN.out])⟩
            case measure => simp [ival]; omega
        · obtain rfl : j = k := by omega
          have HA := hid (At.start (cap := cap') 0 HB.out HT.out)
          clear HB HT
          go_wp2_with (first | (go_at_call 9; refine (new9 _ _ _ _ 0).mono ?_; rintro e w2 ⟨rfl, rfl⟩))
          go_loopw [7] (fun i w2 => ∃ p : Nat, p ≤ j ∧ i = .int .i64 (nsp f p : Nat) ∧ At w w1.heap.size ta j cap' f p w2) (fun i _ => j - (ival i).toNat)
          case atStart => exact ⟨0, Nat.zero_le _, rfl, HA.out⟩
          case round =>
            obtain ⟨p, hp, rfl, hA⟩ := hrel
            have HP := hid hA
            clear hA HA
            have hpj := nsp_mono f hp
            by_cases hm : nsp f p < nsp f j
            · go_wp2_with fail
              refine (next14 _ _ _ _ _ _ p hlen (by omega) HP.out.rd).mono ?_
              rintro e w3 ⟨q, rfl, hst, hR3, hS3⟩
              obtain ⟨hqj, hnq⟩ := steps_more hst hp hm
              have hc0 : (at0 f j q == 0) = false := by
                rw [at0_in hqj]
                have := HZ.out q hqj
                simpa using this
              have HN := hid hnq
              have HT := hid hst
              have HQ := hid (HP.out.next hR3 hS3)
              clear hst hR3 hS3 hnq HP
              go_wp2_with fail
              refine (skip16 _ _ _ _ _ _ q hlen (by omega) HQ.out.rd).mono ?_
              rintro e w4 ⟨q4, r4, rfl, hst4, hk4, hR4, hS4⟩
              obtain rfl := HT.out.again hst4
              have hr4 : r4 = q4 + 1 := by
                rcases hk4 with ⟨_, h⟩ | ⟨h, _⟩
                · exact h
                · rw [h] at hc0; exact absurd hc0 (by decide)
              subst hr4
              have HR := hid (HQ.out.next hR4 hS4)
              clear hst4 hk4 hR4 hS4 HQ hc0
              go_wp2_with fail
              go_roundw
              case rel => exact ⟨q4 + 1, hqj, val_int (by rw [HN.out]; omega), HR.out⟩
              case measure => simp [ival]; omega
            · have HD : Hid (nsp f p = nsp f j) := by show nsp f p = nsp f j; omega
              go_wp2_with fail
              refine (next14 _ _ _ _ _ _ p hlen (by omega) HP.out.rd).mono ?_
              rintro e w3 ⟨q, rfl, hst, hR3, hS3⟩
              obtain rfl := steps_done hst hp HD.out
              have hc0 : (at0 f q q == 0) = true := by rw [at0_out (Nat.le_refl _)]; rfl
              have HQ := hid (HP.out.next hR3 hS3)
              clear hst hR3 hS3 HP
              go_wp2_with (first | (go_at_call 11; refine (pos11 _ _ _ _ _ _ _ HQ.out.rd).mono ?_; rintro e w7 ⟨rfl, rfl⟩))
              go_ret
              exact ⟨ret_bool (by simp), HQ.out.below⟩
end Go.Proofs.Qxb6606291a
