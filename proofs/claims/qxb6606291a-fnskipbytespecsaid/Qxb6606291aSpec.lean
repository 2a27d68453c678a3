/-
  SEAT b6606291a: FnSkipByteSpec: sjb1FirstNonSpaceFrom, the walk.
-/
import Derived.Test.Qxb6606291aSteps
namespace Go.Proofs.Qxb6606291a
open Go.RowKit

/-! ### The plain law: where the reader comes to rest, found from the back -/
theorem Stop.last (f : Nat → Int) (len : Nat) : Stop f len len len := ⟨Nat.le_refl _, fun k h1 h2 => absurd h1 (by omega), fun h => absurd h (Nat.lt_irrefl _)⟩
theorem Stop.here {f : Nat → Int} {len k : Nat} (h : isSp (f k) = false) : Stop f len k k := ⟨Nat.le_refl _, fun j h1 h2 => absurd h1 (by omega), fun _ => h⟩
theorem Stop.ahead {f : Nat → Int} {len k J : Nat} (hk : k < len) (h : isSp (f k) = true) (S : Stop f len (k + 1) J) : Stop f len k J where
  le := by have := S.le; omega
  space := fun j h1 h2 => by
    by_cases e : j = k
    · subst e; exact ⟨hk, h⟩
    · exact S.space j (by omega) h2
  rest := S.rest
theorem Stop.unique {f : Nat → Int} {len p q r : Nat} (S : Stop f len p q) (T : Stop f len p r) : r = q := by
  apply Nat.le_antisymm
  · apply Nat.le_of_not_lt
    intro h
    obtain ⟨h1, h2⟩ := T.space q S.le h
    rw [S.rest h1] at h2
    exact absurd h2 (by decide)
  · apply Nat.le_of_not_lt
    intro h
    obtain ⟨h1, h2⟩ := S.space r T.le h
    rw [T.rest h1] at h2
    exact absurd h2 (by decide)
theorem Stop.past {f : Nat → Int} {len p q : Nat} (S : Stop f len p q) (h : len ≤ p) : q = p := by
  apply Nat.le_antisymm _ S.le
  apply Nat.le_of_not_lt
  intro hq
  exact absurd (S.space p (Nat.le_refl _) hq).1 (by omega)

/-! ### The walks -/
set_option maxHeartbeats 1000000 in
theorem first17 (w : World) (B : Nat) (ta : Option Addr) (len cap : Nat) (f : Nat → Int) (p : Nat) (hlen : len ≤ 1048576) (hp : p ≤ len) (T : Tx w B ta len f) :
    Calls Try.prog 17 #[.slice ta len cap, .int .i64 p] w fun e w' => ∃ J : Nat, e = .returned (.int .i64 J) ∧ w' = w ∧ Stop f len p J := by
  have HT := hid T
  clear T
  go_enter Try.func17, Try.ntmps17
  go_wp2
  go_loop [5, 6] (fun j i => ∃ k J : Nat, p ≤ k ∧ k ≤ len ∧ i = .int .i64 ((k : Int) - 1) ∧ j = .int .i64 J ∧ Stop f len k J) (fun _ i => (ival i + 1).toNat)
  case atStart => exact ⟨len, len, hp, Nat.le_refl _, rfl, rfl, Stop.last f len⟩
  case round =>
    obtain ⟨k, J, hpk, hk, rfl, rfl, hS⟩ := hrel
    have HS := hid hS
    clear hS
    by_cases hlt : p < k
    · obtain ⟨m, rfl⟩ : ∃ m, k = m + 1 := ⟨k - 1, by omega⟩
      have hm : m < len := by omega
      obtain ⟨t, ht, rfl, hc⟩ := HT.out m hm
      cases hsp : isSp (f m)
      · have HN := hid (Stop.here (len := len) hsp)
        go_wp2_with (first | (go_at_call 19; refine (space19 _ _).mono ?_; rintro e w' ⟨rfl, rfl⟩))
        go_round
        case rel => exact ⟨m, m, by omega, by omega, by go_num, rfl, HN.out⟩
        case measure => simp [ival]
      · have HN := hid (Stop.ahead hm hsp HS.out)
        go_wp2_with (first | (go_at_call 19; refine (space19 _ _).mono ?_; rintro e w' ⟨rfl, rfl⟩))
        go_round
        case rel => exact ⟨m, J, by omega, by omega, by go_num, rfl, HN.out⟩
        case measure => simp [ival]
    · obtain rfl : k = p := by omega
      go_wp2
      go_ret
      exact ⟨J, rfl, rfl, HS.out⟩
theorem zzBytes15_in (a : Option Addr) (len cap : Nat) (p : Int) (w : World) (h : len ≤ 1048576) :
    Calls Try.prog 15 #[.slice a len cap, .int .i64 p] w fun e w' => e = .returned (.bool true) ∧ w' = w := by
  go_enter Try.func15, Try.ntmps15
  go_wp2
  go_ret
  exact ⟨rfl, rfl⟩
theorem zzBytes15_out (a : Option Addr) (len cap : Nat) (p : Int) (w : World) (h : 1048576 < len) (h1 : len ≤ 9223372036854775807) :
    Calls Try.prog 15 #[.slice a len cap, .int .i64 p] w fun e w' => e = .returned (.bool false) ∧ w' = w := by
  go_enter Try.func15, Try.ntmps15
  go_wp2
  go_ret
  exact ⟨rfl, rfl⟩

/-- The reader's text is a text. -/
theorem Rd.text {w : World} {b : Nat} {ta : Option Addr} {len cap : Nat} {f : Nat → Int} {p : Nat} (R : Rd w b ta len cap f p) : Tx w b ta len f := R.cells

set_option maxHeartbeats 2000000 in
theorem spec5 (w : World) (a : Option Addr) (len cap : Nat) (f : Nat → Int) (p : Nat) (hlen : len ≤ 1048576) (hp : p ≤ 9223372036854775807) (hs : Src w a len f) :
    Calls Try.prog 5 #[.slice a len cap, .int .i64 p] w fun e w' => e = .returned (.bool true) ∧ Below w.heap.size w w' := by
  have HSrc := hid hs
  clear hs
  go_enter Try.func5, Try.ntmps5
  go_wp2_with (first | (go_at_call 15; refine (zzBytes15_in _ _ _ _ _ hlen).mono ?_; rintro e w ⟨rfl, rfl⟩))
  refine (clone13 _ _ _ _ f hlen HSrc.out).mono ?_
  rintro e w1 ⟨ta, cap', rfl, hb, hT⟩
  have HA := hid (At.start (cap := cap') p hb hT)
  clear hb hT HSrc
  go_wp2_with (first | (go_at_call 9; refine (new9 _ _ _ _ _).mono ?_; rintro e w2 ⟨rfl, rfl⟩))
  refine (skip16 _ _ _ _ _ _ p hlen hp HA.out.rd).mono ?_
  rintro e w2 ⟨q, r, rfl, hst, hk, hR2, hS2⟩
  have HB := hid (HA.out.next hR2 hS2)
  have HT := hid hst
  have HK := hid hk
  have hq := hst.fits hlen hp
  clear hst hk hR2 hS2 HA
  by_cases hpl : p < len
  · have hql := HT.out.in_len (Nat.le_of_lt hpl)
    go_wp2_with (first | (go_at_call 11; refine (pos11 _ _ _ _ _ _ _ HB.out.rd).mono ?_; rintro e w3 ⟨rfl, rfl⟩))
    refine (first17 _ _ _ _ _ _ p hlen (Nat.le_of_lt hpl) HB.out.rd.text).mono ?_
    rintro e w4 ⟨J, rfl, rfl, hJ⟩
    obtain rfl := HT.out.unique hJ
    clear hJ
    by_cases hjl : J < len
    · obtain ⟨t, ht, rfl, hc⟩ := HB.out.rd.cells J hjl
      cases h0 : (f J != 0)
      · have hr : r = J := by
          rcases HK.out with ⟨h, _⟩ | ⟨_, h⟩
          · rw [at0_in hjl] at h; exact absurd h (by simpa using h0)
          · exact h
        subst hr
        clear HK
        go_wp2_with fail
        go_ret
        exact ⟨ret_bool (by simp), HB.out.below⟩
      · have hr : r = J + 1 := by
          rcases HK.out with ⟨_, h⟩ | ⟨h, _⟩
          · exact h
          · rw [at0_in hjl] at h; exact absurd h (by simpa using h0)
        subst hr
        clear HK
        go_wp2_with fail
        go_ret
        exact ⟨ret_bool (by simp), HB.out.below⟩
    · have hr : r = J := by
        rcases HK.out with ⟨h, _⟩ | ⟨_, h⟩
        · exact absurd (at0_out (by omega)) h
        · exact h
      subst hr
      clear HK
      go_wp2_with fail
      go_ret
      exact ⟨ret_bool (by simp), HB.out.below⟩
  · have hqp : q = p := HT.out.past (by omega)
    have hr : r = p := by
      rcases HK.out with ⟨h, _⟩ | ⟨_, h⟩
      · exact absurd (at0_out (by omega)) h
      · rw [h]; exact hqp
    subst hr
    clear HK hqp
    go_wp2_with (first | (go_at_call 11; refine (pos11 _ _ _ _ _ _ _ HB.out.rd).mono ?_; rintro e w3 ⟨rfl, rfl⟩))
    go_ret
    exact ⟨ret_bool (by simp), HB.out.below⟩
end Go.Proofs.Qxb6606291a
