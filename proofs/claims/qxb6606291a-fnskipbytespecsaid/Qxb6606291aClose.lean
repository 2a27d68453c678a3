/-
  SEAT b6606291a: FnMoreFalseStaysAtClose: the walk. (And what the other laws with a cloned text share.)
-/
import Derived.Test.Qxb6606291aClone
namespace Go.Proofs.Qxb6606291a
open Go.RowKit

/-- Since w: a reader of the call's own, in block b, stands at p in w2. -/
structure At (w : World) (b : Nat) (ta : Option Addr) (len cap : Nat) (f : Nat → Int) (p : Nat) (w2 : World) : Prop where
  rd : Rd w2 b ta len cap f p
  low : w.heap.size ≤ b
  below : Below w.heap.size w w2
theorem At.start {w w1 : World} {ta : Option Addr} {len cap : Nat} {f : Nat → Int} (p : Nat) (hb : Below w.heap.size w w1) (T : Tx w1 w1.heap.size ta len f) : At w w1.heap.size ta len cap f p (w1.alloc (.cells #[.slice ta len cap, .int .i64 p] 36)) where
  rd := Rd.new p T
  low := hb.size
  below := hb.alloc hb.size _
theorem At.next {w : World} {b : Nat} {ta : Option Addr} {len cap : Nat} {f : Nat → Int} {p : Nat} {w2 w3 : World} (R : At w b ta len cap f p w2) {r : Nat} (hr : Rd w3 b ta len cap f r) (hS : Since b w2 w3) : At w b ta len cap f r w3 where
  rd := hr
  low := R.low
  below := R.below.trans (hS.below.mono R.low)
/-- Where the reader rests it rests again. -/
theorem Stop.again {f : Nat → Int} {len p q r : Nat} (S : Stop f len p q) (T : Stop f len q r) : r = q := by
  apply Nat.le_antisymm _ T.le
  apply Nat.le_of_not_lt
  intro h
  obtain ⟨h1, h2⟩ := T.space q (Nat.le_refl _) h
  rw [S.rest h1] at h2
  exact absurd h2 (by decide)
theorem Stop.fits {f : Nat → Int} {len p q : Nat} (S : Stop f len p q) (hlen : len ≤ 1048576) (hp : p ≤ 9223372036854775807) : q ≤ 9223372036854775807 := by
  by_cases h : p ≤ len
  · have : q ≤ len := by
      apply Nat.le_of_not_lt
      intro hq
      exact absurd (S.space len h hq).1 (Nat.lt_irrefl _)
    omega
  · have : q ≤ p := by
      apply Nat.le_of_not_lt
      intro hq
      exact absurd (S.space p (Nat.le_refl _) hq).1 (by omega)
    omega

/-- At a '}', a ']' or nothing More answers false and stays. -/
theorem close_again {c : Int} {q r : Nat} {B : Bool} (h : c = 125 ∨ c = 93 ∨ c = 0) (M : MoreIs c q r B) : B = false ∧ r = q := by
  rcases M with ⟨h1, _⟩ | ⟨_, hr, hB⟩ | ⟨h1, _⟩
  · omega
  · exact ⟨hB, hr⟩
  · omega
theorem zzBytes12_in (a : Option Addr) (len cap : Nat) (p : Int) (w : World) (h : len ≤ 1048576) :
    Calls Try.prog 12 #[.slice a len cap, .int .i64 p] w fun e w' => e = .returned (.bool true) ∧ w' = w := by
  go_enter Try.func12, Try.ntmps12
  go_wp2
  go_ret
  exact ⟨rfl, rfl⟩
theorem zzBytes12_out (a : Option Addr) (len cap : Nat) (p : Int) (w : World) (h : 1048576 < len) (h1 : len ≤ 9223372036854775807) :
    Calls Try.prog 12 #[.slice a len cap, .int .i64 p] w fun e w' => e = .returned (.bool false) ∧ w' = w := by
  go_enter Try.func12, Try.ntmps12
  go_wp2
  go_ret
  exact ⟨rfl, rfl⟩

set_option maxHeartbeats 2000000 in
theorem close4 (w : World) (a : Option Addr) (len cap : Nat) (f : Nat → Int) (p : Nat) (hlen : len ≤ 1048576) (hp : p ≤ 9223372036854775807) (hs : Src w a len f) :
    Calls Try.prog 4 #[.slice a len cap, .int .i64 p] w fun e w' => e = .returned (.bool true) ∧ Below w.heap.size w w' := by
  have HSrc := hid hs
  clear hs
  go_enter Try.func4, Try.ntmps4
  go_wp2_with (first | (go_at_call 12; refine (zzBytes12_in _ _ _ _ _ hlen).mono ?_; rintro e w ⟨rfl, rfl⟩))
  refine (clone13 _ _ _ _ f hlen HSrc.out).mono ?_
  rintro e w1 ⟨ta, cap', rfl, hb, hT⟩
  have HA := hid (At.start (cap := cap') p hb hT)
  clear hb hT HSrc
  go_wp2_with (first | (go_at_call 9; refine (new9 _ _ _ _ _).mono ?_; rintro e w2 ⟨rfl, rfl⟩))
  refine (more10 _ _ _ _ _ _ p hlen hp HA.out.rd).mono ?_
  rintro e w2 ⟨q, r, B, rfl, hst, hM, hR2, hS2⟩
  have HB := hid (HA.out.next hR2 hS2)
  have HT := hid hst
  have HM := hid hM
  have hq := hst.fits hlen hp
  clear hst hM hR2 hS2 HA
  cases B
  · obtain ⟨hc, hr⟩ : (at0 f len q = 125 ∨ at0 f len q = 93 ∨ at0 f len q = 0) ∧ r = q := by
      rcases HM.out with ⟨_, _, h⟩ | ⟨h1, h2, _⟩ | ⟨_, _, h⟩
      · exact absurd h (by decide)
      · exact ⟨h1, h2⟩
      · exact absurd h (by decide)
    subst hr
    have HC := hid hc
    clear hc HM
    go_wp2_with (first | (go_at_call 11; refine (pos11 _ _ _ _ _ _ _ HB.out.rd).mono ?_; rintro e w3 ⟨rfl, rfl⟩))
    refine (next14 _ _ _ _ _ _ r hlen hq HB.out.rd).mono ?_
    rintro e w4 ⟨q4, rfl, hst, hR4, hS4⟩
    obtain rfl := HT.out.again hst
    have HD := hid (HB.out.next hR4 hS4)
    clear hst hR4 hS4 HB
    rcases HC.out with hc | hc | hc
    all_goals
      go_wp2_with (first | (go_at_call 11; refine (pos11 _ _ _ _ _ _ _ HD.out.rd).mono ?_; rintro e w5 ⟨rfl, rfl⟩))
      refine (more10 _ _ _ _ _ _ q4 hlen hq HD.out.rd).mono ?_
      rintro e w6 ⟨q6, r6, B, rfl, hst, hM, hR6, hS6⟩
      obtain rfl := HT.out.again hst
      obtain ⟨rfl, rfl⟩ := close_again HC.out hM
      have HE := hid (HD.out.next hR6 hS6)
      clear hst hM hR6 hS6 HD
      go_wp2_with (first | (go_at_call 11; refine (pos11 _ _ _ _ _ _ _ HE.out.rd).mono ?_; rintro e w7 ⟨rfl, rfl⟩))
      go_ret
      exact ⟨ret_bool (by simp), HE.out.below⟩
  · clear HM
    go_wp2_with fail
    go_ret
    exact ⟨rfl, HB.out.below⟩
end Go.Proofs.Qxb6606291a
