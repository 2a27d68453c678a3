/-
  SEAT b6605544a: THE WALKS OF appendDigits, ZZappendDigits, zzBytes_FnAppendDigitsPositionalSum.
-/
import Derived.Test.Qxb6605544aRows
import Derived.Test.Qxb6605544aMath
import Derived.WalkKit
import Derived.WalkSpells
namespace Go.Proofs.Qxb6605544a
open Go.RowKit

def ival : Value → Int | .int _ q => q | _ => 0
theorem ret_int {k : IntKind} {a b : Int} (h : a = b) : Ending.returned (.int k a) = .returned (.int k b) := by rw [h]
theorem ret_bool {a b : Bool} (h : a = b) : Ending.returned (.bool a) = .returned (.bool b) := by rw [h]
theorem val_int {k : IntKind} {a b : Int} (h : a = b) : Value.int k a = .int k b := by rw [h]
theorem take_snoc (s : ByteArray) (k : Nat) (h : k < s.size) : s.data.toList.take (k + 1) = s.data.toList.take k ++ [s[k]] := by
  rw [List.take_succ_eq_append_getElem (by simpa using h)]; rfl
theorem take_all (s : ByteArray) (k : Nat) (h : s.size ≤ k) : s.data.toList.take k = s.data.toList :=
  List.take_of_length_le (by simpa using h)

theorem drop_all (s : ByteArray) (k : Nat) (h : s.size ≤ k) : s.data.toList.drop k = [] :=
  List.drop_of_length_le (by simpa using h)
theorem drop_cons (s : ByteArray) (k : Nat) (h : k < s.size) : s.data.toList.drop k = s[k] :: s.data.toList.drop (k + 1) :=
  List.drop_eq_getElem_cons (by simpa using h)

set_option maxHeartbeats 400000 in
theorem zzBytes13_in (a0 : Int) (s : ByteArray) (w : World) (h : s.size ≤ 1048576) :
    Calls Try.prog 13 #[.int .i64 a0, .string s] w fun e w' => e = .returned (.bool true) ∧ w' = w := by
  go_enter Try.func13, Try.ntmps13
  go_wp2
  go_ret
  exact ⟨rfl, rfl⟩
set_option maxHeartbeats 400000 in
theorem zzBytes13_out (a0 : Int) (s : ByteArray) (w : World) (h : 1048576 < s.size) (w1 : s.size ≤ maxLen) :
    Calls Try.prog 13 #[.int .i64 a0, .string s] w fun e w' => e = .returned (.bool false) ∧ w' = w := by
  unfold maxLen at w1
  go_enter Try.func13, Try.ntmps13
  go_wp2
  go_ret
  exact ⟨rfl, rfl⟩

set_option maxHeartbeats 400000 in
theorem append21 (a0 : Int) (s : ByteArray) (w : World) (h : s.size ≤ 1048576) :
    Calls Try.prog 21 #[.int .i64 a0, .string s] w fun e w' => e = .returned (.int .i64 (Math.adL a0 s.data.toList)) ∧ w' = w := by
  go_enter Try.func21, Try.ntmps21
  go_wp2
  go_loop [0, 5] (fun n i => ∃ k : Nat, k ≤ s.size ∧ i = .int .i64 k ∧ n = .int .i64 (Math.adL a0 (s.data.toList.take k))) (fun _ i => s.size - (ival i).toNat)
  case atStart => exact ⟨0, Nat.zero_le _, rfl, rfl⟩
  case round =>
    obtain ⟨k, hk, rfl, rfl⟩ := hrel
    by_cases hlt : k < s.size
    · go_wp2
      go_round
      case rel =>
        refine ⟨k + 1, by omega, by go_num, val_int ?_⟩
        rw [take_snoc s k hlt, Math.adL_snoc]; rfl
      case measure => simp [ival]; omega
    · go_wp2
      go_ret
      exact ⟨ret_int (by rw [take_all s k (by omega)]), rfl⟩

set_option maxHeartbeats 400000 in
theorem append14 (a0 : Int) (s : ByteArray) (w : World) (h : s.size ≤ 1048576) :
    Calls Try.prog 14 #[.int .i64 a0, .string s] w fun e w' => e = .returned (.int .i64 (Math.adL a0 s.data.toList)) ∧ w' = w := by
  go_enter Try.func14, Try.ntmps14
  go_wp2_with fail
  refine (append21 a0 s _ h).mono ?_
  rintro e w' ⟨rfl, rfl⟩
  go_wp2
  go_ret
  exact ⟨rfl, rfl⟩
end Go.Proofs.Qxb6605544a
