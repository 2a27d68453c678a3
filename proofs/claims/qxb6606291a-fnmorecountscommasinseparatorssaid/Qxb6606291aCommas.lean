/-
  SEAT b6606291a: FnMoreCountsCommasInSeparators: its plain law, sjb1SpaceOf, the walk.
-/
import Derived.Test.Qxb6606291aClone
namespace Go.Proofs.Qxb6606291a
open Go.RowKit

/-! ### The plain law -/
/-- sjb1SpaceOf. -/
def spaceOf (c : Int) : Int := if c % 4 = 0 then 32 else if c % 4 = 1 then 9 else if c % 4 = 2 then 10 else 13
theorem spaceOf_space (c : Int) : isSp (spaceOf c) = true := by
  unfold spaceOf
  split
  · rfl
  · split
    · rfl
    · split <;> rfl
/-- The separator that the law makes of a byte. -/
def sepOf (c : Int) : Int := if c % 5 = 0 then 44 else spaceOf c
theorem sepOf_comma {c : Int} (h : c % 5 = 0) : sepOf c = 44 := if_pos h
theorem sepOf_space {c : Int} (h : ¬ c % 5 = 0) : sepOf c = spaceOf c := if_neg h
/-- How many of the first n bytes are commas. -/
def cnt (g : Nat → Int) : Nat → Nat
  | 0 => 0
  | n + 1 => cnt g n + if g n = 44 then 1 else 0
theorem cnt_le (g : Nat → Int) (n : Nat) : cnt g n ≤ n := by
  induction n with
  | zero => exact Nat.le_refl _
  | succ n ih => simp only [cnt]; split <;> omega
theorem cnt_comma {g : Nat → Int} {n : Nat} (h : g n = 44) : cnt g (n + 1) = cnt g n + 1 := by simp only [cnt]; rw [if_pos h]
theorem cnt_space {g : Nat → Int} {n : Nat} (h : isSp (g n) = true) : cnt g (n + 1) = cnt g n := by
  simp only [cnt]
  rw [if_neg (fun e => by rw [e] at h; exact absurd h (by decide))]
  omega
theorem cnt_stop {g : Nat → Int} {len p q : Nat} (S : Stop g len p q) : cnt g q = cnt g p := by
  have key : ∀ d, p + d ≤ q → cnt g (p + d) = cnt g p := by
    intro d
    induction d with
    | zero => intro _; rfl
    | succ d ih =>
      intro h
      rw [← Nat.add_assoc, cnt_space (S.space (p + d) (by omega) (by omega)).2]
      exact ih (by omega)
  have := key (q - p) (by have := S.le; omega)
  rwa [show p + (q - p) = q by have := S.le; omega] at this
theorem Stop.le_len {g : Nat → Int} {len p q : Nat} (S : Stop g len p q) (h : p ≤ len) : q ≤ len := by
  apply Nat.le_of_not_lt
  intro hq
  exact absurd (S.space len h hq).1 (Nat.lt_irrefl _)
/-- In a text of separators More reads the next comma, or rests at the end. -/
theorem more_seps {g : Nat → Int} {len p q r : Nat} {B : Bool} (hg : ∀ k, k < len → g k = 44 ∨ isSp (g k) = true) (S : Stop g len p q) (hp : p ≤ len) (M : MoreIs (at0 g len q) q r B) :
    (B = true ∧ r ≤ len ∧ cnt g r = cnt g p + 1) ∨ (B = false ∧ r = len ∧ cnt g p = cnt g len) := by
  have hq := S.le_len hp
  have hc := cnt_stop S
  by_cases h : q < len
  · have e : g q = 44 := by
      rcases hg q h with e | e
      · exact e
      · rw [S.rest h] at e; exact absurd e (by decide)
    rw [at0_in h, e] at M
    rcases M with ⟨_, hr, hB⟩ | ⟨h1, _⟩ | ⟨h1, _⟩
    · subst hr; exact Or.inl ⟨hB, h, by rw [cnt_comma e, hc]⟩
    · omega
    · exact absurd rfl h1.1
  · have e : q = len := by omega
    subst e
    rw [at0_out (Nat.le_refl _)] at M
    rcases M with ⟨h1, _⟩ | ⟨_, hr, hB⟩ | ⟨h1, _⟩
    · omega
    · exact Or.inr ⟨hB, hr, hc.symm⟩
    · exact absurd rfl h1.2.2.2

/-- At the end More answers false and stays. -/
theorem more_end {g : Nat → Int} {len q r : Nat} {B : Bool} (S : Stop g len len q) (M : MoreIs (at0 g len q) q r B) : B = false ∧ r = len := by
  have hq : q = len := Nat.le_antisymm (S.le_len (Nat.le_refl _)) S.le
  subst hq
  rw [at0_out (Nat.le_refl _)] at M
  rcases M with ⟨h1, _⟩ | ⟨_, hr, hB⟩ | ⟨h1, _⟩
  · omega
  · exact ⟨hB, hr⟩
  · exact absurd rfl h1.2.2.2

/-! ### The walks -/
set_option maxHeartbeats 400000 in
theorem space8 (c : Int) (w : World) (h0 : 0 ≤ c) (h1 : c ≤ 255) :
    Calls Try.prog 8 #[.int .u8 c] w fun e w' => e = .returned (.int .u8 (spaceOf c)) ∧ w' = w := by
  by_cases c0 : c % 4 = 0
  · have HE : Hid (spaceOf c = 32) := by unfold Hid spaceOf; rw [if_pos c0]
    have c0' : (c % 4 == 0) = true := by simp [c0]
    clear c0
    go_enter Try.func8, Try.ntmps8
    go_wp2
    go_ret
    exact ⟨ret_int HE.out.symm, rfl⟩
  · have c0' : (c % 4 == 0) = false := by simp [c0]
    by_cases c1 : c % 4 = 1
    · have HE : Hid (spaceOf c = 9) := by unfold Hid spaceOf; rw [if_neg c0, if_pos c1]
      have c1' : (c % 4 == 1) = true := by simp [c1]
      clear c0 c1
      go_enter Try.func8, Try.ntmps8
      go_wp2
      go_ret
      exact ⟨ret_int HE.out.symm, rfl⟩
    · have c1' : (c % 4 == 1) = false := by simp [c1]
      by_cases c2 : c % 4 = 2
      · have HE : Hid (spaceOf c = 10) := by unfold Hid spaceOf; rw [if_neg c0, if_neg c1, if_pos c2]
        have c2' : (c % 4 == 2) = true := by simp [c2]
        clear c0 c1 c2
        go_enter Try.func8, Try.ntmps8
        go_wp2
        go_ret
        exact ⟨ret_int HE.out.symm, rfl⟩
      · have c2' : (c % 4 == 2) = false := by simp [c2]
        have HE : Hid (spaceOf c = 13) := by unfold Hid spaceOf; rw [if_neg c0, if_neg c1, if_neg c2]
        clear c0 c1 c2
        go_enter Try.func8, Try.ntmps8
        go_wp2
        go_ret
        exact ⟨ret_int HE.out.symm, rfl⟩
theorem zzBytes7_in (a : Option Addr) (len cap : Nat) (w : World) (h : len ≤ 1048576) :
    Calls Try.prog 7 #[.slice a len cap] w fun e w' => e = .returned (.bool true) ∧ w' = w := by
  go_enter Try.func7, Try.ntmps7
  go_wp2
  go_ret
  exact ⟨rfl, rfl⟩
theorem zzBytes7_out (a : Option Addr) (len cap : Nat) (w : World) (h : 1048576 < len) (h1 : len ≤ 9223372036854775807) :
    Calls Try.prog 7 #[.slice a len cap] w fun e w' => e = .returned (.bool false) ∧ w' = w := by
  go_enter Try.func7, Try.ntmps7
  go_wp2
  go_ret
  exact ⟨rfl, rfl⟩

/-- What the counting loop knows: the reader in block b stands at p, and m commas lie ahead of it. -/
structure CountRel (w : World) (len : Nat) (g : Nat → Int) (b p m : Nat) (w2 : World) : Prop where
  rd : Rd w2 b (some ⟨w.heap.size, 0, none⟩) len len g p
  le : p ≤ len
  count : m = cnt g p
  low : w.heap.size ≤ b
  below : Below w.heap.size w w2
theorem CountRel.start {w : World} {len : Nat} {g : Nat → Int} {wr : World} (R : CopyRel w len g len wr) : CountRel w len g wr.heap.size 0 0 (wr.alloc (.cells #[.slice (some ⟨w.heap.size, 0, none⟩) len len, .int .i64 0] 36)) where
  rd := Rd.new 0 R.text
  le := Nat.zero_le _
  count := rfl
  low := by rw [R.size]; omega
  below := R.below.alloc (by rw [R.size]; omega) _
theorem CountRel.next {w : World} {len : Nat} {g : Nat → Int} {b p m : Nat} {w2 w3 : World} (R : CountRel w len g b p m w2) {r m' : Nat} (hr : Rd w3 b (some ⟨w.heap.size, 0, none⟩) len len g r) (hle : r ≤ len) (hm : m' = cnt g r) (hS : Since b w2 w3) : CountRel w len g b r m' w3 where
  rd := hr
  le := hle
  count := hm
  low := R.low
  below := R.below.trans (hS.below.mono R.low)

set_option maxHeartbeats 2000000 in
theorem commas3 (w : World) (a : Option Addr) (len cap : Nat) (f : Nat → Int) (hlen : len ≤ 1048576) (hs : Src w a len f) (hf : ∀ k, 0 ≤ f k ∧ f k ≤ 255) :
    Calls Try.prog 3 #[.slice a len cap] w fun e w' => e = .returned (.bool true) ∧ Below w.heap.size w w' := by
  obtain ⟨g, hg⟩ : ∃ g : Nat → Int, g = fun k => sepOf (f k) := ⟨_, rfl⟩
  have HGk : Hid (∀ k, g k = sepOf (f k)) := fun k => by rw [hg]
  clear hg
  have HSrc := hid hs
  have HF := hid hf
  clear hs hf
  have hmk := fun w => run_make_row' (P := Try.prog) 22 5 (.int .u8 0) 1 Try.underlying22 info5 rfl .i64 .i64 len (by omega) (by omega) w
  go_enter Try.func3, Try.ntmps3
  go_wp2_with (first | (go_at_call 7; refine (zzBytes7_in _ _ _ _ hlen).mono ?_; rintro e w ⟨rfl, rfl⟩))
  clear hmk
  go_loopw [4, 5] (fun c i wr => ∃ k : Nat, k ≤ len ∧ i = .int .i64 k ∧ c = .int .i64 (cnt g k : Nat) ∧ CopyRel w len g k wr) (fun _ i _ => len - (ival i).toNat)
  case atStart => exact ⟨0, Nat.zero_le _, rfl, rfl, CopyRel.start w len g⟩
  case round =>
    obtain ⟨k, hk, rfl, rfl, hR⟩ := hrel
    have HR := hid hR
    clear hR
    have hck := cnt_le g k
    by_cases hlt : k < len
    · rcases HSrc.out with ⟨_, h0⟩ | ⟨xb, xo, xs, rfl, hc0⟩
      · exact absurd hlt (by omega)
      · obtain ⟨rfl, hb, hc⟩ := hc0 k hlt
        clear hc0
        have hcr : wr.cell? ⟨xb, xo + k, none⟩ = some (.int .u8 (f k)) := by rw [HR.out.below.cell (p := ⟨xb, xo + k, none⟩) hb]; exact hc
        have hcw := HR.out.row.cell hlt
        have hfw := HR.out.row.frozen k
        have hf0 := (HF.out k).1
        have hf1 := (HF.out k).2
        clear hc
        by_cases h5 : f k % 5 = 0
        · have h5' : (f k % 5 == 0) = true := by simp [h5]
          have eg : g k = 44 := by rw [HGk.out, sepOf_comma h5]
          have HN := hid HR.out.step
          rw [eg] at HN
          have HK := hid (cnt_comma eg)
          clear h5 eg
          go_wp2_with fail
          go_roundw
          case rel => exact ⟨k + 1, by omega, by go_num, val_int (by rw [HK.out]; omega), HN.out⟩
          case measure => simp [ival]; omega
        · have h5' : (f k % 5 == 0) = false := by simp [h5]
          have eg : g k = spaceOf (f k) := by rw [HGk.out, sepOf_space h5]
          have HN := hid HR.out.step
          rw [eg] at HN
          have HK := hid (cnt_space (g := g) (n := k) (by rw [eg]; exact spaceOf_space _))
          clear h5 eg
          go_wp2_with (first | (go_at_call 8; refine (space8 _ _ hf0 hf1).mono ?_; rintro e w' ⟨rfl, rfl⟩))
          go_roundw
          case rel => exact ⟨k + 1, by omega, by go_num, val_int (by rw [HK.out]), HN.out⟩
          case measure => simp [ival]; omega
    · obtain rfl : k = len := by omega
      have HG2 : Hid (∀ j, j < k → g j = 44 ∨ isSp (g j) = true) := fun j _ => by
        rw [HGk.out]
        by_cases e : f j % 5 = 0
        · exact Or.inl (sepOf_comma e)
        · rw [sepOf_space e]; exact Or.inr (spaceOf_space _)
      clear HSrc HF HGk
      go_wp2_with (first | (go_at_call 9; refine (new9 _ _ _ _ 0).mono ?_; rintro e w' ⟨rfl, rfl⟩))
      go_loopw [7, 8, 9] (fun t en i w2 => ∃ p m : Nat, m ≤ k ∧ t = .int .i64 m ∧ en = .bool false ∧ i = .int .i64 m ∧ CountRel w k g wr.heap.size p m w2) (fun _ _ i _ => k + 1 - (ival i).toNat)
      case atStart => exact ⟨0, 0, Nat.zero_le _, rfl, rfl, rfl, CountRel.start HR.out⟩
      case round =>
        obtain ⟨p, m, hm, rfl, rfl, rfl, hC⟩ := hrel
        have HC := hid hC
        have hpk := hC.le
        clear hC
        go_wp2_with fail
        refine (more10 _ _ _ _ _ _ p hlen (by omega) HC.out.rd).mono ?_
        rintro e w3 ⟨q, r, B, rfl, hst, hM, hR3, hS3⟩
        rcases more_seps HG2.out hst hpk hM with ⟨rfl, hr, hcn⟩ | ⟨rfl, rfl, hcn⟩
        · have hm1 : m + 1 ≤ k := by have := cnt_le g r; have := HC.out.count; omega
          have HN := hid (HC.out.next hR3 hr (m' := m + 1) (by rw [hcn, HC.out.count]) hS3)
          clear hst hM hR3 hS3 hcn HR
          go_wp2_with fail
          go_roundw
          case rel => exact ⟨r, m + 1, hm1, by go_num, rfl, by go_num, HN.out⟩
          case measure => simp [ival]; omega
        · have e : m = cnt g r := by rw [HC.out.count, hcn]
          have HN := hid (HC.out.next hR3 (Nat.le_refl _) rfl hS3)
          clear hst hM hR3 hS3 hcn HC HR
          subst e
          go_wp2_with (first | (go_at_call 11; refine (pos11 _ _ _ _ _ _ _ HN.out.rd).mono ?_; rintro e w4 ⟨rfl, rfl⟩))
          refine (more10 _ _ _ _ _ _ r hlen (by omega) HN.out.rd).mono ?_
          rintro e w5 ⟨q5, r5, B, rfl, hst, hM, hR5, hS5⟩
          obtain ⟨rfl, rfl⟩ := more_end hst hM
          have HE := hid (HN.out.next hR5 (Nat.le_refl _) rfl hS5)
          clear hst hM hR5 hS5 HN
          go_wp2_with (first | (go_at_call 11; refine (pos11 _ _ _ _ _ _ _ HE.out.rd).mono ?_; rintro e w6 ⟨rfl, rfl⟩))
          go_ret
          exact ⟨ret_bool (by simp), HE.out.below⟩
end Go.Proofs.Qxb6606291a
