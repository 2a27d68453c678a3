/-
  SEAT b6605544a: THE PLAIN LAWS OF DECIMAL TEXT: no Go in sight.
-/
import Derived.Test.Qxb6605544aMath
namespace Go.Proofs.Qxb6605544a.Math
open Go.RowKit

/-- The decimal digits of u, at most f of them; none of 0. -/
def decF : Nat → Nat → List UInt8
  | 0, _ => []
  | f + 1, u => if u = 0 then [] else decF f (u / 10) ++ [UInt8.ofNat (48 + u % 10)]
theorem decF_zero (f : Nat) : decF f 0 = [] := by cases f <;> simp [decF]
theorem decF_succ (f u : Nat) (h : u ≠ 0) : decF (f + 1) u = decF f (u / 10) ++ [UInt8.ofNat (48 + u % 10)] := by simp [decF, h]
theorem decF_length (f u : Nat) : (decF f u).length ≤ f := by
  induction f generalizing u with
  | zero => simp [decF]
  | succ f ih =>
    by_cases h : u = 0
    · subst h; rw [decF_zero]; simp
    · rw [decF_succ f u h]; have := ih (u / 10); simp; omega
/-- decText of a number that is not negative. -/
def decT (n : Nat) : List UInt8 := if n = 0 then [48] else decF 20 n
theorem decT_zero : decT 0 = [48] := rfl
theorem decT_pos {n : Nat} (h : n ≠ 0) : decT n = decF 20 n := if_neg h
theorem decT_length (n : Nat) : (decT n).length ≤ 20 := by
  by_cases h : n = 0
  · subst h; rw [decT_zero]; simp
  · rw [decT_pos h]; exact decF_length 20 n
theorem decT_ne (n : Nat) : decT n ≠ [] := by
  by_cases h : n = 0
  · subst h; rw [decT_zero]; simp
  · rw [decT_pos h, decF_succ 19 n h]; simp

/-- A byte that is a digit. -/
def isD (c : UInt8) : Prop := 48 ≤ c.toNat ∧ c.toNat ≤ 57
/-- The number that a text of digits reads as, n ahead of it. -/
def valF (n : Nat) (l : List UInt8) : Nat := l.foldl (fun n c => n * 10 + (c.toNat - 48)) n
theorem valF_nil (n : Nat) : valF n [] = n := rfl
theorem valF_cons (n : Nat) (c : UInt8) (l : List UInt8) : valF n (c :: l) = valF (n * 10 + (c.toNat - 48)) l := by unfold valF; rw [List.foldl_cons]
theorem valF_append (n : Nat) (l m : List UInt8) : valF n (l ++ m) = valF (valF n l) m := by
  unfold valF; rw [List.foldl_append]
theorem valF_ge (n : Nat) (l : List UInt8) : n ≤ valF n l := by
  induction l generalizing n with
  | nil => exact Nat.le_refl _
  | cons c l ih => rw [valF_cons]; exact Nat.le_trans (by omega) (ih (n * 10 + (c.toNat - 48)))
theorem valF_lt_step (n P V c : Nat) (hc : c ≤ 57) (h : V < (n * 10 + (c - 48) + 1) * P) : V < (n + 1) * (P * 10) := by
  refine Nat.lt_of_lt_of_le h ?_
  rw [Nat.mul_comm P 10, ← Nat.mul_assoc]
  exact Nat.mul_le_mul_right P (by omega)
theorem valF_lt (l : List UInt8) (hd : ∀ c ∈ l, isD c) (n : Nat) : valF n l < (n + 1) * 10 ^ l.length := by
  induction l generalizing n with
  | nil => rw [valF_nil, List.length_nil, Nat.pow_zero]; omega
  | cons c l ih =>
    have hc := (hd c (by simp)).2
    have h := ih (fun d hd' => hd d (by simp [hd'])) (n * 10 + (c.toNat - 48))
    have e : 10 ^ (c :: l).length = 10 ^ l.length * 10 := by rw [List.length_cons, Nat.pow_succ]
    rw [e, valF_cons]
    exact valF_lt_step n _ _ _ hc h
theorem digit_toNat (u : Nat) : (UInt8.ofNat (48 + u % 10)).toNat = 48 + u % 10 := by
  rw [UInt8.toNat_ofNat']; omega
theorem decF_val (f u : Nat) (h : u < 10 ^ f) : valF 0 (decF f u) = u := by
  induction f generalizing u with
  | zero => rw [Nat.pow_zero] at h; rw [decF, valF_nil]; omega
  | succ f ih =>
    by_cases hz : u = 0
    · subst hz; rw [decF_zero]; rfl
    · rw [decF_succ f u hz, valF_append, ih (u / 10) (by rw [Nat.pow_succ] at h; omega)]
      rw [valF_cons, valF_nil, digit_toNat]
      omega
theorem decT_val (n : Nat) (h : n < 10 ^ 20) : valF 0 (decT n) = n := by
  by_cases hz : n = 0
  · subst hz; rw [decT_zero]; rfl
  · rw [decT_pos hz]; exact decF_val 20 n h
theorem decF_digits (f u : Nat) : ∀ c ∈ decF f u, isD c := by
  induction f generalizing u with
  | zero => simp [decF]
  | succ f ih =>
    by_cases hz : u = 0
    · subst hz; rw [decF_zero]; simp
    · rw [decF_succ f u hz]
      intro c hc
      rcases List.mem_append.1 hc with hc | hc
      · exact ih _ c hc
      · have e : c = UInt8.ofNat (48 + u % 10) := by simpa using hc
        subst e
        unfold isD
        rw [digit_toNat]; omega
theorem decT_digits (n : Nat) : ∀ c ∈ decT n, isD c := by
  by_cases hz : n = 0
  · subst hz; rw [decT_zero]; intro c hc; have e : c = 48 := by simpa using hc
    subst e; exact ⟨by decide, by decide⟩
  · rw [decT_pos hz]; exact decF_digits 20 n

/-- Leading zeros dropped, one byte kept. -/
def trimL : List UInt8 → List UInt8
  | [] => []
  | [c] => [c]
  | c :: d :: l => if c = 48 then trimL (d :: l) else c :: d :: l
theorem trimL_zero (d : UInt8) (l : List UInt8) : trimL (48 :: d :: l) = trimL (d :: l) := rfl
theorem trimL_other {c : UInt8} (h : c ≠ 48) (l : List UInt8) : trimL (c :: l) = c :: l := by
  cases l with
  | nil => rfl
  | cons d l => simp [trimL, h]
theorem trimL_val (l : List UInt8) : valF 0 (trimL l) = valF 0 l := by
  induction l with
  | nil => rfl
  | cons c l ih =>
    by_cases h : c = 48
    · subst h
      cases l with
      | nil => rfl
      | cons d l => rw [trimL_zero, ih]; rfl
    · rw [trimL_other h]
theorem trimL_mem (l : List UInt8) : ∀ c ∈ trimL l, c ∈ l := by
  induction l with
  | nil => simp [trimL]
  | cons c l ih =>
    by_cases h : c = 48
    · subst h
      cases l with
      | nil => simp [trimL]
      | cons d l => rw [trimL_zero]; intro x hx; exact List.mem_cons_of_mem _ (ih x hx)
    · rw [trimL_other h]; exact fun _ hx => hx
/-- What is left: a lone byte, or no zero ahead. -/
theorem trimL_head (l : List UInt8) (hne : l ≠ []) : (∃ c, trimL l = [c]) ∨ ∃ c m, trimL l = c :: m ∧ c ≠ 48 := by
  induction l with
  | nil => exact absurd rfl hne
  | cons c l ih =>
    by_cases h : c = 48
    · subst h
      cases l with
      | nil => exact Or.inl ⟨48, rfl⟩
      | cons d l => rw [trimL_zero]; exact ih (by simp)
    · rw [trimL_other h]; exact Or.inr ⟨c, l, rfl, h⟩

/-- A text without a leading zero is the text of what it reads as. -/
theorem decF_of (f : Nat) (c : UInt8) (m : List UInt8) (hc : c ≠ 48) (hd : ∀ x ∈ c :: m, isD x) (hl : (c :: m).length ≤ f) : decF f (valF 0 (c :: m)) = c :: m ∧ valF 0 (c :: m) ≠ 0 := by
  induction f generalizing m with
  | zero => simp at hl
  | succ f ih =>
    have hcn : c.toNat ≠ 48 := fun h => hc (UInt8.toNat_inj.1 (by simpa using h))
    rcases List.eq_nil_or_concat m with rfl | ⟨m', d, rfl⟩
    · have hcd := hd c (by simp)
      unfold isD at hcd
      have e : valF 0 [c] = c.toNat - 48 := by rw [valF_cons, valF_nil]; omega
      rw [e]
      refine ⟨?_, by omega⟩
      rw [decF_succ f _ (by omega), show (c.toNat - 48) / 10 = 0 by omega, decF_zero, show 48 + (c.toNat - 48) % 10 = c.toNat by omega]
      simp
    · rw [List.concat_eq_append] at hd hl ⊢
      have hdd := hd d (by simp)
      unfold isD at hdd
      obtain ⟨h1, h2⟩ := ih m' (fun x hx => hd x (by simp at hx ⊢; rcases hx with hx | hx <;> simp [hx])) (by simp at hl ⊢; omega)
      have e : valF 0 (c :: (m' ++ [d])) = valF 0 (c :: m') * 10 + (d.toNat - 48) := by
        rw [← List.cons_append, valF_append]; rfl
      rw [e]
      refine ⟨?_, by omega⟩
      rw [decF_succ f _ (by omega), show (valF 0 (c :: m') * 10 + (d.toNat - 48)) / 10 = valF 0 (c :: m') by omega, h1,
        show 48 + (valF 0 (c :: m') * 10 + (d.toNat - 48)) % 10 = d.toNat by omega]
      simp
/-- The text of what a trimmed text of digits reads as is the text. -/
theorem decT_trim (l : List UInt8) (hne : l ≠ []) (hd : ∀ c ∈ l, isD c) (hl : (trimL l).length ≤ 20) : decT (valF 0 l) = trimL l := by
  have hdt : ∀ c ∈ trimL l, isD c := fun c hc => hd c (trimL_mem l c hc)
  rw [← trimL_val l]
  rcases trimL_head l hne with ⟨c, hc⟩ | ⟨c, m, hc, hn⟩
  · rw [hc] at hdt ⊢
    by_cases h : c = 48
    · subst h; rfl
    · obtain ⟨h1, h2⟩ := decF_of 20 c [] h hdt (by simp)
      rw [decT_pos h2, h1]
  · rw [hc] at hdt hl ⊢
    obtain ⟨h1, h2⟩ := decF_of 20 c m hn hdt hl
    rw [decT_pos h2, h1]

/-- appendDigits does not wrap where the number stays small. -/
theorem adL_val (l : List UInt8) (hd : ∀ c ∈ l, isD c) (n : Nat) (h : valF n l < 10 ^ 18) : adL n l = valF n l := by
  induction l generalizing n with
  | nil => rfl
  | cons c l ih =>
    have hc := hd c (by simp)
    unfold isD at hc
    have hge := valF_ge (n * 10 + (c.toNat - 48)) l
    have hv := valF_cons n c l
    rw [hv] at h
    have e : wrap64 (wrap64 ((n : Int) * 10) + dig c) = ((n * 10 + (c.toNat - 48) : Nat) : Int) := by
      unfold wrap64 dig; omega
    simp only [adL, e]
    exact ih (fun d hd' => hd d (by simp [hd'])) _ h
/-- THE LAW. -/
theorem reads (n : Nat) (hn : n < 10 ^ 20) (s : List UInt8) (hs : ∀ c ∈ s, isD c) (hl : (trimL (decT n ++ s)).length ≤ 18) :
    ∃ V : Nat, adL n s = V ∧ V < 10 ^ 18 ∧ decT V = trimL (decT n ++ s) := by
  have hd : ∀ c ∈ decT n ++ s, isD c := fun c hc => (List.mem_append.1 hc).elim (decT_digits n c) (hs c)
  have hv : valF 0 (decT n ++ s) = valF n s := by rw [valF_append, decT_val n hn]
  have hlt : valF n s < 10 ^ 18 := by
    rw [← hv, ← trimL_val]
    refine Nat.lt_of_lt_of_le (valF_lt _ (fun c hc => hd c (trimL_mem _ c hc)) 0) ?_
    rw [Nat.zero_add, Nat.one_mul]
    exact Nat.pow_le_pow_right (by omega) hl
  refine ⟨valF n s, adL_val s hs n hlt, hlt, ?_⟩
  rw [← hv]
  exact decT_trim _ (by simp [decT_ne]) hd (by omega)
end Go.Proofs.Qxb6605544a.Math
