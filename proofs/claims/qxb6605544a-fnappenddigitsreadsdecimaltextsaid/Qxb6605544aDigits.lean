/-
  SEAT b6605544a: THE WALKS OF inDigitTable, allDigits, ZZallDigits, zzBytes_FnAllDigitsByTable, onlyDigits.
-/
import Derived.Test.Qxb6605544aAppend
import Derived.LoopN
namespace Go.Proofs.Qxb6605544a
open Go.RowKit

/-- Is the number an ASCII digit's? -/
def isDig (n : Nat) : Bool := decide (48 ≤ n ∧ n ≤ 57)
theorem isDig_yes {n : Nat} (h0 : 48 ≤ n) (h1 : n ≤ 57) : isDig n = true := decide_eq_true ⟨h0, h1⟩
theorem isDig_low {n : Nat} (h0 : n < 48) : isDig n = false := decide_eq_false (by omega)
theorem isDig_high {n : Nat} (h0 : 57 < n) : isDig n = false := decide_eq_false (by omega)
/-- Are all bytes digits? -/
def allD (l : List UInt8) : Bool := l.all fun c => isDig c.toNat
theorem allD_snoc (l : List UInt8) (c : UInt8) : allD (l ++ [c]) = (allD l && isDig c.toNat) := by
  simp [allD]
/-- allDigits. -/
def allDig (s : ByteArray) : Bool := !s.data.toList.isEmpty && allD s.data.toList

/-- The table's byte at k is 48 + k. -/
theorem table_at : ∀ (k : Nat) (h : k < (ByteArray.mk #[48, 49, 50, 51, 52, 53, 54, 55, 56, 57]).size), ((ByteArray.mk #[48, 49, 50, 51, 52, 53, 54, 55, 56, 57])[k]'h).toNat = 48 + k := by
  decide
set_option maxHeartbeats 1000000 in
theorem table12 (n : Nat) (w : World) :
    Calls Try.prog 12 #[.int .u8 n] w fun e w' => e = .returned (.bool (isDig n)) ∧ w' = w := by
  have hsz : (ByteArray.mk #[48, 49, 50, 51, 52, 53, 54, 55, 56, 57]).size = 10 := rfl
  go_enter Try.func12, Try.ntmps12
  go_wp2
  go_loop [3] (fun i => ∃ k : Nat, k ≤ 10 ∧ i = .int .i64 k ∧ (n < 48 ∨ 48 + k ≤ n)) (fun i => 10 - (ival i).toNat)
  case atStart => exact ⟨0, Nat.zero_le _, rfl, by omega⟩
  case round =>
    obtain ⟨k, hk, rfl, hd⟩ := hrel
    have ht := table_at
    by_cases hlt : k < 10
    · go_wp2
      · have e : 48 + k = n := by have := ‹((48 : Int) + (k : Int) == (n : Int)) = true›; simp at this; omega
        go_ret
        exact ⟨ret_bool (isDig_yes (by omega) (by omega)).symm, rfl⟩
      · have e : 48 + k ≠ n := by have := ‹((48 : Int) + (k : Int) == (n : Int)) = false›; simp at this; omega
        go_round
        case rel => exact ⟨k + 1, by omega, by go_num, by omega⟩
        case measure => simp [ival]; omega
    · go_wp2
      go_ret
      exact ⟨ret_bool (by rcases hd with hd | hd; exact (isDig_low hd).symm; exact (isDig_high (by omega)).symm), rfl⟩
theorem isEmpty_size (s : ByteArray) : s.toList.isEmpty = (s.size == 0) := by
  rw [ByteArray.toList_eq]
  have e : s.data.toList.length = s.size := by simp
  cases h : s.data.toList with
  | nil => rw [h] at e; rw [← e]; rfl
  | cons c l => rw [h] at e; rw [← e]; rfl
theorem allDig_empty {s : ByteArray} (h : s.size = 0) : allDig s = false := by
  have e : s.data.toList.isEmpty = true := by rw [← ByteArray.toList_eq, isEmpty_size]; simp [h]
  unfold allDig; rw [e]; rfl
theorem allDig_of {s : ByteArray} (h : s.size ≠ 0) : allDig s = allD s.data.toList := by
  have e : s.data.toList.isEmpty = false := by rw [← ByteArray.toList_eq, isEmpty_size]; simp [h]
  unfold allDig; rw [e]; rfl
theorem allD_take_succ (s : ByteArray) (k : Nat) (h : k < s.size) : allD (s.data.toList.take (k + 1)) = (allD (s.data.toList.take k) && isDig s[k].toNat) := by
  rw [take_snoc s k h, allD_snoc]
theorem allD_fails (s : ByteArray) (k : Nat) (h : k < s.size) (hd : isDig s[k].toNat = false) : allD s.data.toList = false := by
  have e := allD_take_succ s k h
  rw [hd, Bool.and_false] at e
  rw [← List.take_append_drop (k + 1) s.data.toList]
  unfold allD at e ⊢
  rw [List.all_append, e, Bool.false_and]

set_option maxHeartbeats 1000000 in
theorem all20 (s : ByteArray) (w : World) (hs : s.size ≤ 1048576) :
    Calls Try.prog 20 #[.string s] w fun e w' => e = .returned (.bool (allDig s)) ∧ w' = w := by
  by_cases hz : s.size = 0
  · have HZ : Hid (allDig s = false) := allDig_empty hz
    have he : s.toList.isEmpty = true := by rw [isEmpty_size]; simp [hz]
    clear hz
    go_enter Try.func20, Try.ntmps20
    go_wp2
    go_ret
    exact ⟨ret_bool HZ.out.symm, rfl⟩
  · have HZ : Hid (allDig s = allD s.data.toList) := allDig_of hz
    have he : s.toList.isEmpty = false := by rw [isEmpty_size]; simp [hz]
    clear hz
    go_enter Try.func20, Try.ntmps20
    go_wp2
    go_loop [3] (fun i => ∃ k : Nat, k ≤ s.size ∧ i = .int .i64 k ∧ allD (s.data.toList.take k) = true) (fun i => s.size - (ival i).toNat)
    case atStart => exact ⟨0, Nat.zero_le _, rfl, rfl⟩
    case round =>
      obtain ⟨k, hk, rfl, hd⟩ := hrel
      have HD : Hid (allD (s.data.toList.take k) = true) := hd
      clear hd
      by_cases hlt : k < s.size
      · by_cases h0 : s[k].toNat < 48
        · go_wp2
          go_ret
          exact ⟨ret_bool (by rw [HZ.out, allD_fails s k hlt (isDig_low h0)]), rfl⟩
        · by_cases h1 : 57 < s[k].toNat
          · go_wp2
            go_ret
            exact ⟨ret_bool (by rw [HZ.out, allD_fails s k hlt (isDig_high h1)]), rfl⟩
          · go_wp2
            go_round
            case rel => exact ⟨k + 1, by omega, by go_num, by rw [allD_take_succ s k hlt, HD.out, isDig_yes (by omega) (by omega)]; rfl⟩
            case measure => simp [ival]; omega
      · go_wp2
        go_ret
        exact ⟨ret_bool (by rw [HZ.out, ← HD.out, take_all s k (by omega)]), rfl⟩

set_option maxHeartbeats 400000 in
theorem all11 (s : ByteArray) (w : World) (hs : s.size ≤ 1048576) :
    Calls Try.prog 11 #[.string s] w fun e w' => e = .returned (.bool (allDig s)) ∧ w' = w := by
  go_enter Try.func11, Try.ntmps11
  go_wp2_with fail
  refine (all20 s _ hs).mono ?_
  rintro e w' ⟨rfl, rfl⟩
  go_wp2
  go_ret
  exact ⟨rfl, rfl⟩

set_option maxHeartbeats 400000 in
theorem zzBytes10_in (s : ByteArray) (w : World) (h : s.size ≤ 1048576) :
    Calls Try.prog 10 #[.string s] w fun e w' => e = .returned (.bool true) ∧ w' = w := by
  go_enter Try.func10, Try.ntmps10
  go_wp2
  go_ret
  exact ⟨rfl, rfl⟩
set_option maxHeartbeats 400000 in
theorem zzBytes10_out (s : ByteArray) (w : World) (h : 1048576 < s.size) (w1 : s.size ≤ maxLen) :
    Calls Try.prog 10 #[.string s] w fun e w' => e = .returned (.bool false) ∧ w' = w := by
  unfold maxLen at w1
  go_enter Try.func10, Try.ntmps10
  go_wp2
  go_ret
  exact ⟨rfl, rfl⟩
end Go.Proofs.Qxb6605544a
