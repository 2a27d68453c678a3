/-
  SEAT b6606291a: A Reader IN MEMORY; THE WALKS OF Next, More, skipByte, ZZSkipByte, ZZPos, ZZNewReader.
-/
import Derived.Test.Qxb6606291aRows
import Derived.WalkKit
import Derived.WalkSpells
import Derived.RegionTactic
import Derived.ChangeAlike
import Derived.Below
namespace Go.Proofs.Qxb6606291a
open Go.RowKit

def ival : Value → Int | .int _ q => q | _ => 0
theorem ret_int {k : IntKind} {a b : Int} (h : a = b) : Ending.returned (.int k a) = .returned (.int k b) := by rw [h]
theorem ret_bool {a b : Bool} (h : a = b) : Ending.returned (.bool a) = .returned (.bool b) := by rw [h]
theorem val_int {k : IntKind} {a b : Int} (h : a = b) : Value.int k a = .int k b := by rw [h]
theorem hid {p : Prop} (h : p) : Hid p := h

/-- The four bytes of JSON's whitespace. -/
def isSp (c : Int) : Bool := c == 32 || c == 9 || c == 10 || c == 13
theorem isSp_no {c : Int} (h : isSp c = false) : (c == 32) = false ∧ (c == 9) = false ∧ (c == 10) = false ∧ (c == 13) = false := by
  unfold isSp at h
  simpa [Bool.or_eq_false_iff, and_assoc] using h
theorem isSp_yes {c : Int} (h : isSp c = true) : (c == 32) = true ∨ ((c == 32) = false ∧ (c == 9) = true) ∨ ((c == 32) = false ∧ (c == 9) = false ∧ (c == 10) = true) ∨ ((c == 32) = false ∧ (c == 9) = false ∧ (c == 10) = false ∧ (c == 13) = true) := by
  unfold isSp at h
  revert h
  cases (c == 32) <;> cases (c == 9) <;> cases (c == 10) <;> cases (c == 13) <;> simp
/-- q is where the reader comes to rest from p on: all between is whitespace inside the text; at q there is none, or no text. -/
structure Stop (f : Nat → Int) (len p q : Nat) : Prop where
  le : p ≤ q
  space : ∀ k, p ≤ k → k < q → k < len ∧ isSp (f k) = true
  rest : q < len → isSp (f q) = false
/-- What Next answers at q. -/
def at0 (f : Nat → Int) (len q : Nat) : Int := if q < len then f q else 0
theorem at0_in {f : Nat → Int} {len q : Nat} (h : q < len) : at0 f len q = f q := if_pos h
theorem at0_out {f : Nat → Int} {len q : Nat} (h : len ≤ q) : at0 f len q = 0 := if_neg (by omega)

/-- A Reader lies in block b, at position p, over a slice value whose len elements are f 0, f 1, ..: they lie in a block below b. -/
structure Rd (w : World) (b : Nat) (ta : Option Addr) (len cap : Nat) (f : Nat → Int) (p : Nat) : Prop where
  txt : w.cell? ⟨b, 0, none⟩ = some (.slice ta len cap)
  pos : w.cell? ⟨b, 1, none⟩ = some (.int .i64 p)
  free : w.frozen? ⟨b, 1, none⟩ = false
  cells : ∀ k, k < len → ∃ t, t < b ∧ ta = some ⟨t, 0, none⟩ ∧ w.cell? ⟨t, k, none⟩ = some (.int .u8 (f k))
/-- The position of the reader in block b. -/
def posOf (w : World) (b : Nat) : Nat := (ival ((w.cell? ⟨b, 1, none⟩).getD undef)).toNat

theorem Rd.drew {w : World} {b : Nat} {ta : Option Addr} {len cap : Nat} {f : Nat → Int} {p : Nat} (R : Rd w b ta len cap f p) : Rd w.drew b ta len cap f p := ⟨R.txt, R.pos, R.free, R.cells⟩
theorem Rd.move {w : World} {b : Nat} {ta : Option Addr} {len cap : Nat} {f : Nat → Int} {p : Nat} (R : Rd w b ta len cap f p) (q : Nat) : Rd (w.setCell ⟨b, 1, none⟩ (.int .i64 q)) b ta len cap f q where
  txt := by rw [World.cell?_setCell_other _ _ _ _ (by simp)]; exact R.txt
  pos := World.cell?_setCell_same _ _ _ R.pos
  free := by rw [World.frozen?_setCell]; exact R.free
  cells := fun k hk => by
    obtain ⟨t, h1, h2, h3⟩ := R.cells k hk
    refine ⟨t, h1, h2, ?_⟩
    rw [World.cell?_setCell_other _ _ _ _ (by intro e; have e1 : b = t := congrArg Addr.block e; omega)]
    exact h3
theorem Rd.posOf {w : World} {b : Nat} {ta : Option Addr} {len cap : Nat} {f : Nat → Int} {p : Nat} (R : Rd w b ta len cap f p) : posOf w b = p := by
  unfold Qxb6606291a.posOf; rw [R.pos]; rfl
/-- What has happened since w: blocks below b stand, none is new. -/
structure Since (b : Nat) (w w' : World) : Prop where
  below : Below b w w'
  size : w'.heap.size = w.heap.size
theorem Since.refl (b : Nat) (w : World) : Since b w w := ⟨Below.refl _ _, rfl⟩
theorem Since.trans {b : Nat} {w w1 w2 : World} (h : Since b w w1) (g : Since b w1 w2) : Since b w w2 := ⟨h.below.trans g.below, g.size.trans h.size⟩
theorem Since.drew {b : Nat} {w w1 : World} (h : Since b w w1) : Since b w w1.drew := ⟨h.below.drew, h.size⟩
theorem Since.move {b : Nat} {w w1 : World} (h : Since b w w1) (v : Value) : Since b w (w1.setCell ⟨b, 1, none⟩ v) := ⟨h.below.setCell (Nat.le_refl _) _, by simpa [World.setCell] using h.size⟩
/-- What Next's loop knows. -/
structure NextRel (w : World) (b : Nat) (ta : Option Addr) (len cap : Nat) (f : Nat → Int) (p q : Nat) (wr : World) : Prop where
  fits : q ≤ 9223372036854775807
  le : p ≤ q
  space : ∀ k, p ≤ k → k < q → k < len ∧ isSp (f k) = true
  rd : Rd wr b ta len cap f q
  since : Since b w wr
theorem NextRel.step {w : World} {b : Nat} {ta : Option Addr} {len cap : Nat} {f : Nat → Int} {p q : Nat} {wr : World} (R : NextRel w b ta len cap f p q wr) (hlen : len ≤ 1048576) (hlt : q < len) (hs : isSp (f q) = true) :
    NextRel w b ta len cap f p (q + 1) (wr.setCell ⟨b, 1, none⟩ (.int .i64 ((q : Int) + 1))).drew.drew where
  fits := by omega
  le := by have := R.le; omega
  space := fun k h1 h2 => by
    by_cases e : k = q
    · subst e; exact ⟨hlt, hs⟩
    · exact R.space k h1 (by omega)
  rd := (R.rd.move (q + 1)).drew.drew
  since := (R.since.move _).drew.drew
theorem NextRel.stop {w : World} {b : Nat} {ta : Option Addr} {len cap : Nat} {f : Nat → Int} {p q : Nat} {wr : World} (R : NextRel w b ta len cap f p q wr) (h : q < len → isSp (f q) = false) : Stop f len p q := ⟨R.le, R.space, h⟩

set_option maxHeartbeats 1000000 in
theorem next14 (w : World) (b : Nat) (ta : Option Addr) (len cap : Nat) (f : Nat → Int) (p : Nat) (hlen : len ≤ 1048576) (hp : p ≤ 9223372036854775807) (R : Rd w b ta len cap f p) :
    Calls Try.prog 14 #[.pointer (some ⟨b, 0, none⟩)] w fun e w' => ∃ q, e = .returned (.int .u8 (at0 f len q)) ∧ Stop f len p q ∧ Rd w' b ta len cap f q ∧ Since b w w' := by
  go_enter Try.func14, Try.ntmps14
  go_wp2
  go_loopw [3] (fun _ wr => ∃ q, NextRel w b ta len cap f p q wr) (fun _ wr => len - posOf wr b)
  case atStart => exact ⟨p, hp, Nat.le_refl _, fun k h1 h2 => absurd h1 (by omega), R, Since.refl _ _⟩
  case round =>
    obtain ⟨q, hR⟩ := hrel
    have HR := hid hR
    have hq := hR.fits
    have h0 := hR.rd.txt
    have h1 := hR.rd.pos
    have h2 := hR.rd.free
    clear hR R
    by_cases hlt : q < len
    · obtain ⟨t, htb, rfl, hc⟩ := HR.out.rd.cells q hlt
      have HM : Hid (∀ wn, NextRel w b (some ⟨t, 0, none⟩) len cap f p (q + 1) wn → len - posOf wn b < len - posOf wr b) := fun wn h => by
        rw [h.rd.posOf, HR.out.rd.posOf]; omega
      cases hs : isSp (f q)
      · obtain ⟨c1, c2, c3, c4⟩ := isSp_no hs
        go_wp2
        go_region
        go_wp2
        go_region
        go_wp2
        go_ret
        exact ⟨q, ret_int (at0_in hlt).symm, HR.out.stop (fun _ => hs), HR.out.rd.drew.drew, HR.out.since.drew.drew⟩
      · have HN := hid (HR.out.step hlen hlt hs)
        have hc' := isSp_yes hs
        clear hs
        rcases hc' with c1 | ⟨c1, c2⟩ | ⟨c1, c2, c3⟩ | ⟨c1, c2, c3, c4⟩
        all_goals
          go_wp2
          go_region
          go_wp2
          go_region
          go_wp2
          go_roundw
          case rel => exact ⟨q + 1, HN.out⟩
          case measure => exact HM.out _ HN.out
    · go_wp2
      go_region
      go_wp2
      go_ret
      exact ⟨q, ret_int (at0_out (by omega)).symm, HR.out.stop (fun h => absurd h hlt), HR.out.rd.drew, HR.out.since.drew⟩

/-! ### ZZNewReader, ZZPos, More, skipByte -/
theorem pos11 (w : World) (b : Nat) (ta : Option Addr) (len cap : Nat) (f : Nat → Int) (p : Nat) (R : Rd w b ta len cap f p) :
    Calls Try.prog 11 #[.pointer (some ⟨b, 0, none⟩)] w fun e w' => e = .returned (.int .i64 p) ∧ w' = w := by
  have h1 := R.pos
  clear R
  go_enter Try.func11, Try.ntmps11
  go_wp2
  go_ret
  exact ⟨rfl, rfl⟩
theorem new9 (w : World) (ta : Option Addr) (len cap p : Nat) :
    Calls Try.prog 9 #[.slice ta len cap, .int .i64 p] w fun e w' => e = .returned (.pointer (some ⟨w.heap.size, 0, none⟩)) ∧ w' = w.alloc (.cells #[.slice ta len cap, .int .i64 p] 36) := by
  go_enter Try.func9, Try.ntmps9
  go_wp2
  go_ret
  exact ⟨rfl, rfl⟩
/-- What More does at the byte c where the reader rests at q: the position behind, the answer. -/
def MoreIs (c : Int) (q r : Nat) (B : Bool) : Prop :=
  (c = 44 ∧ r = q + 1 ∧ B = true) ∨ ((c = 125 ∨ c = 93 ∨ c = 0) ∧ r = q ∧ B = false) ∨ ((c ≠ 44 ∧ c ≠ 125 ∧ c ≠ 93 ∧ c ≠ 0) ∧ r = q ∧ B = true)
theorem at0_lt {f : Nat → Int} {len q : Nat} (h : at0 f len q ≠ 0) : q < len := by
  by_cases e : q < len
  · exact e
  · exact absurd (at0_out (by omega)) h
set_option maxHeartbeats 1000000 in
theorem more10 (w : World) (b : Nat) (ta : Option Addr) (len cap : Nat) (f : Nat → Int) (p : Nat) (hlen : len ≤ 1048576) (hp : p ≤ 9223372036854775807) (R : Rd w b ta len cap f p) :
    Calls Try.prog 10 #[.pointer (some ⟨b, 0, none⟩)] w fun e w' => ∃ (q r : Nat) (B : Bool), e = .returned (.bool B) ∧ Stop f len p q ∧ MoreIs (at0 f len q) q r B ∧ Rd w' b ta len cap f r ∧ Since b w w' := by
  go_enter Try.func10, Try.ntmps10
  go_wp2_with fail
  refine (next14 w b ta len cap f p hlen hp R).mono ?_
  rintro e w1 ⟨q, rfl, hst, hR, hS⟩
  have HS := hid hS
  have HT := hid hst
  have HR := hid hR
  have h1 := hR.pos
  have h2 := hR.free
  clear hS hst hR R
  obtain ⟨c, hc⟩ : ∃ c, at0 f len q = c := ⟨_, rfl⟩
  have HQ : Hid (c ≠ 0 → q < len) := fun h => at0_lt (f := f) (by rw [hc]; exact h)
  simp only [hc]
  have HC := hid hc
  clear hc
  cases c44 : (c == 44)
  · cases c125 : (c == 125)
    · cases c93 : (c == 93)
      · cases c0 : (c == 0)
        · go_wp2_with fail
          go_ret
          simp at c44 c125 c93 c0
          exact ⟨q, q, true, rfl, HT.out, by rw [HC.out]; exact Or.inr (Or.inr ⟨⟨c44, c125, c93, c0⟩, rfl, rfl⟩), HR.out, HS.out⟩
        · go_wp2_with fail
          go_ret
          simp at c0
          exact ⟨q, q, false, rfl, HT.out, by rw [HC.out]; exact Or.inr (Or.inl ⟨Or.inr (Or.inr c0), rfl, rfl⟩), HR.out, HS.out⟩
      · go_wp2_with fail
        go_ret
        simp at c93
        exact ⟨q, q, false, rfl, HT.out, by rw [HC.out]; exact Or.inr (Or.inl ⟨Or.inr (Or.inl c93), rfl, rfl⟩), HR.out, HS.out⟩
    · go_wp2_with fail
      go_ret
      simp at c125
      exact ⟨q, q, false, rfl, HT.out, by rw [HC.out]; exact Or.inr (Or.inl ⟨Or.inl c125, rfl, rfl⟩), HR.out, HS.out⟩
  · have hq : q < len := HQ.out (by simp at c44; omega)
    go_wp2_with fail
    go_ret
    simp at c44
    exact ⟨q, q + 1, true, rfl, HT.out, by rw [HC.out]; exact Or.inl ⟨c44, rfl, rfl⟩, HR.out.move (q + 1), HS.out.move _⟩

/-- What skipByte does at the byte c where the reader rests at q. -/
def SkipIs (c : Int) (q r : Nat) : Prop := (c ≠ 0 ∧ r = q + 1) ∨ (c = 0 ∧ r = q)
set_option maxHeartbeats 1000000 in
theorem skip20 (w : World) (b : Nat) (ta : Option Addr) (len cap : Nat) (f : Nat → Int) (p : Nat) (hlen : len ≤ 1048576) (hp : p ≤ 9223372036854775807) (R : Rd w b ta len cap f p) :
    Calls Try.prog 20 #[.pointer (some ⟨b, 0, none⟩)] w fun e w' => ∃ q r : Nat, e = .returned (.tuple #[]) ∧ Stop f len p q ∧ SkipIs (at0 f len q) q r ∧ Rd w' b ta len cap f r ∧ Since b w w' := by
  go_enter Try.func20, Try.ntmps20
  go_wp2_with fail
  refine (next14 w b ta len cap f p hlen hp R).mono ?_
  rintro e w1 ⟨q, rfl, hst, hR, hS⟩
  have HS := hid hS
  have HT := hid hst
  have HR := hid hR
  have h1 := hR.pos
  have h2 := hR.free
  clear hS hst hR R
  obtain ⟨c, hc⟩ : ∃ c, at0 f len q = c := ⟨_, rfl⟩
  have HQ : Hid (c ≠ 0 → q < len) := fun h => at0_lt (f := f) (by rw [hc]; exact h)
  simp only [hc]
  have HC := hid hc
  clear hc
  cases c0 : (c != 0)
  · go_wp2_with fail
    go_end0
    simp at c0
    exact ⟨q, q, rfl, HT.out, by rw [HC.out]; exact Or.inr ⟨c0, rfl⟩, HR.out, HS.out⟩
  · have hq : q < len := HQ.out (by simpa using c0)
    go_wp2_with fail
    go_end0
    simp at c0
    exact ⟨q, q + 1, rfl, HT.out, by rw [HC.out]; exact Or.inl ⟨c0, rfl⟩, HR.out.move (q + 1), HS.out.move _⟩
theorem skip16 (w : World) (b : Nat) (ta : Option Addr) (len cap : Nat) (f : Nat → Int) (p : Nat) (hlen : len ≤ 1048576) (hp : p ≤ 9223372036854775807) (R : Rd w b ta len cap f p) :
    Calls Try.prog 16 #[.pointer (some ⟨b, 0, none⟩)] w fun e w' => ∃ q r : Nat, e = .returned (.tuple #[]) ∧ Stop f len p q ∧ SkipIs (at0 f len q) q r ∧ Rd w' b ta len cap f r ∧ Since b w w' := by
  go_enter Try.func16, Try.ntmps16
  go_wp2_with fail
  refine (skip20 w b ta len cap f p hlen hp R).mono ?_
  rintro e w1 ⟨q, r, rfl, h1, h2, h3, h4⟩
  go_wp2
  go_end0
  exact ⟨q, r, rfl, h1, h2, h3, h4⟩
end Go.Proofs.Qxb6606291a
