/-
  SEAT b6605544a: THE WALKS OF onlyDigits, trimZeros, decText, zzBytes_FnAppendDigitsReadsDecimalText.
-/
import Derived.Test.Qxb6605544aDigits
import Derived.Test.Qxb6605544aTextMath
import Derived.ProofKit
import Derived.Lib.SlBytesRow
import Derived.Lib.LazyBuf
import Derived.Lib.IndexBytes
namespace Go.Proofs.Qxb6605544a
open Go.RowKit

theorem hid {p : Prop} (h : p) : Hid p := h
theorem Grown_trans {a b c : World} (h : Grown a b) (g : Grown b c) : Grown a c :=
  ⟨World.keptBut_trans h.1 (World.keptBut_mono (fun _ f => f.elim) g.1), fun x => (g.2.1 x).trans (h.2.1 x), Nat.le_trans h.2.2 g.2.2⟩

set_option maxHeartbeats 400000 in
theorem zzBytes15_in (a0 : Int) (s : ByteArray) (w : World) (h : s.size ≤ 1048576) :
    Calls Try.prog 15 #[.int .i64 a0, .string s] w fun e w' => e = .returned (.bool true) ∧ w' = w := by
  go_enter Try.func15, Try.ntmps15
  go_wp2
  go_ret
  exact ⟨rfl, rfl⟩
set_option maxHeartbeats 400000 in
theorem zzBytes15_out (a0 : Int) (s : ByteArray) (w : World) (h : 1048576 < s.size) (w1 : s.size ≤ maxLen) :
    Calls Try.prog 15 #[.int .i64 a0, .string s] w fun e w' => e = .returned (.bool false) ∧ w' = w := by
  unfold maxLen at w1
  go_enter Try.func15, Try.ntmps15
  go_wp2
  go_ret
  exact ⟨rfl, rfl⟩

set_option maxHeartbeats 1000000 in
theorem only16 (s : ByteArray) (w : World) (hs : s.size ≤ 1048576) :
    Calls Try.prog 16 #[.string s] w fun e w' => e = .returned (.bool (allD s.data.toList)) ∧ w' = w := by
  go_enter Try.func16, Try.ntmps16
  go_wp2
  go_loop [3] (fun i => ∃ k : Nat, k ≤ s.size ∧ i = .int .i64 k ∧ allD (s.data.toList.take k) = true) (fun i => s.size - (ival i).toNat)
  case atStart => exact ⟨0, Nat.zero_le _, rfl, rfl⟩
  case round =>
    obtain ⟨k, hk, rfl, hd⟩ := hrel
    have HD : Hid (allD (s.data.toList.take k) = true) := hd
    clear hd
    by_cases hlt : k < s.size
    · by_cases h0 : s[k].toNat < 48
      · go_wp2
        go_ret
        exact ⟨ret_bool (by rw [allD_fails s k hlt (isDig_low h0)]), rfl⟩
      · by_cases h1 : 57 < s[k].toNat
        · go_wp2
          go_ret
          exact ⟨ret_bool (by rw [allD_fails s k hlt (isDig_high h1)]), rfl⟩
        · go_wp2
          go_round
          case rel => exact ⟨k + 1, by omega, by go_num, by rw [allD_take_succ s k hlt, HD.out, isDig_yes (by omega) (by omega)]; rfl⟩
          case measure => simp [ival]; omega
    · go_wp2
      go_ret
      exact ⟨ret_bool (by rw [← HD.out, take_all s k (by omega)]), rfl⟩

theorem get_drop (s : ByteArray) (k : Nat) (h : k < s.size) : s.data.toList.drop k = s[k] :: s.data.toList.drop (k + 1) := drop_cons s k h
theorem byte_is (c : UInt8) (h : c.toNat = 48) : c = 48 := UInt8.toNat_inj.1 (by simpa using h)
theorem trim_step (s : ByteArray) (k : Nat) (h : k + 1 < s.size) (h0 : s[k].toNat = 48) : Math.trimL (s.data.toList.drop (k + 1)) = Math.trimL (s.data.toList.drop k) := by
  rw [get_drop s k (by omega), get_drop s (k + 1) h, byte_is _ h0, Math.trimL_zero]
theorem trim_stop (s : ByteArray) (k : Nat) (h : k < s.size) (h0 : ¬ s[k].toNat = 48) : Math.trimL (s.data.toList.drop k) = s.data.toList.drop k := by
  rw [get_drop s k h, Math.trimL_other (fun e => h0 (by rw [e]; rfl))]
theorem trim_last (s : ByteArray) (k : Nat) (h : k < s.size) (h1 : ¬ k + 1 < s.size) : Math.trimL (s.data.toList.drop k) = s.data.toList.drop k := by
  rw [get_drop s k h, drop_all s (k + 1) (by omega)]; rfl
set_option maxHeartbeats 1000000 in
theorem trim17 (s : ByteArray) (w : World) (hs : s.size ≤ 2097152) (hp : 0 < s.size) :
    Calls Try.prog 17 #[.string s] w fun e w' => ∃ t : ByteArray, e = .returned (.string t) ∧ w' = w ∧ t.data.toList = Math.trimL s.data.toList := by
  go_enter Try.func17, Try.ntmps17
  go_wp2
  go_loop [3] (fun i => ∃ k : Nat, k < s.size ∧ i = .int .i64 k ∧ Math.trimL (s.data.toList.drop k) = Math.trimL s.data.toList) (fun i => s.size - (ival i).toNat)
  case atStart => exact ⟨0, hp, rfl, rfl⟩
  case round =>
    obtain ⟨k, hk, rfl, hd⟩ := hrel
    have HD : Hid (Math.trimL (s.data.toList.drop k) = Math.trimL s.data.toList) := hd
    clear hd
    by_cases hlt : k + 1 < s.size
    · by_cases h0 : s[k].toNat = 48
      · have HE : Hid (Math.trimL (s.data.toList.drop (k + 1)) = Math.trimL s.data.toList) := (trim_step s k hlt h0).trans HD.out
        go_wp2
        go_round
        case rel => exact ⟨k + 1, hlt, by go_num, HE.out⟩
        case measure => simp [ival]; omega
      · have h0' : ((s[k].toNat : Int) == 48) = false := by
          have e : (s[k].toNat : Int) ≠ 48 := by omega
          simpa using e
        have HE : Hid ((s.extract k s.size).data.toList = Math.trimL s.data.toList) := by
          show (s.extract k s.size).data.toList = _
          rw [Lib.extract_to_end, ← HD.out, trim_stop s k hk h0]
        clear h0
        go_wp2
        go_ret
        exact ⟨_, rfl, rfl, HE.out⟩
    · have HE : Hid ((s.extract k s.size).data.toList = Math.trimL s.data.toList) := by
        show (s.extract k s.size).data.toList = _
        rw [Lib.extract_to_end, ← HD.out, trim_last s k hk hlt]
      go_wp2
      go_ret
      exact ⟨_, rfl, rfl, HE.out⟩

/-! ### decText of a number above 0 -/
theorem len35 : Try.prog.arrayLen 35 = 20 := by kernel_rfl
theorem elem35 : Try.prog.elem 35 = 5 := by kernel_rfl
theorem slice_buf (W : World) (N k : Nat) (hk : k < 20) :
    (Instr.sliceAt 35 (.pointer (some ⟨N, 0, none⟩)) (some (.int .i64 k)) none none).run Try.prog W = .ok (.slice (some ⟨N, k, none⟩) (20 - k) (20 - k)) W := by
  have hz : (sizeOf (Try.prog.elem 35)).run Try.prog W = .ok 1 W := by rw [elem35]; simp [go_sem]
  rw [run_sliceAt_array_l W 35 ⟨N, 0, none⟩ (by rw [len35, elem35]; exact Try.underlying35) .i64 (k : Int) (by omega) (by rw [len35]; omega), hz]
  have e : ¬ 20 = k := by omega
  simp [Result.andThen, slicedAt, len35, e, Addr.add]
  omega
theorem conv_buf (W : World) (N k : Nat) (l : List UInt8) (hl : l.length + k = 20) (hc : ∀ t (h : t < l.length), W.cell? ⟨N, k + t, none⟩ = some (.int .u8 l[t].toNat)) :
    (convert 36 9 (.slice (some ⟨N, k, none⟩) (20 - k) (20 - k))).run Try.prog W = .ok (.string ⟨l.toArray⟩) W := by
  have h := run_convert_bytes_arg (P := Try.prog) W 36 5 Try.underlying36 Try.underlying5 N k (20 - k) (20 - k) (l.map fun b => (b.toNat : Int)) (by simp; omega) (fun i hi => by
    rw [hc i (by omega)]
    simp [List.getD, List.getElem?_eq_getElem (show i < l.length by omega)]) 9 Try.underlying9
  rw [h, Lib.Lz.strOfNums_map]
/-- What the loop knows: k cells are free, n is left to write, l stands behind. -/
structure DecRel (w : World) (v : Nat) (k n : Nat) (l : List UInt8) (wr : World) : Prop where
  small : n < 10 ^ k
  len : l.length + k = 20
  text : Math.decF 20 v = Math.decF k n ++ l
  there : ∀ j, j < 20 → ∃ x, wr.cell? ⟨w.heap.size, j, none⟩ = some x
  holds : ∀ t (h : t < l.length), wr.cell? ⟨w.heap.size, k + t, none⟩ = some (.int .u8 l[t].toNat)
  grown : Grown w wr
theorem DecRel.free {w : World} {v k n : Nat} {l : List UInt8} {wr : World} (R : DecRel w v k n l wr) (j : Nat) : wr.frozen? ⟨w.heap.size, j, none⟩ = false := by
  rw [R.grown.2.1]
  simp [World.frozen?]
theorem DecRel.more {w : World} {v k n : Nat} {l : List UInt8} {wr : World} (R : DecRel w v k n l wr) (h : 0 < n) : ∃ j, k = j + 1 := by
  have := R.small
  cases k with
  | zero => rw [Nat.pow_zero] at this; omega
  | succ j => exact ⟨j, rfl⟩
theorem DecRel.step {w : World} {v j n : Nat} {l : List UInt8} {wr : World} (R : DecRel w v (j + 1) n l wr) (h : 0 < n) :
    DecRel w v j (n / 10) (UInt8.ofNat (48 + n % 10) :: l) (wr.setCell ⟨w.heap.size, j, none⟩ (.int .u8 (48 + (n : Int) % 10))) := by
  obtain ⟨h1, h2, h3, h4, h5, h6⟩ := R
  refine ⟨?_, ?_, ?_, ?_, ?_, ?_⟩
  · rw [Nat.pow_succ] at h1; omega
  · simp; omega
  · rw [h3, Math.decF_succ j n (by omega)]; simp
  · intro i hi
    obtain ⟨x, hx⟩ := h4 i hi
    exact cell?_setCell_some hx
  · intro t ht
    cases t with
    | zero =>
      obtain ⟨x, hx⟩ := h4 j (by omega)
      rw [Nat.add_zero, World.cell?_setCell_same _ _ _ hx]
      show some (Value.int .u8 (48 + (n : Int) % 10)) = some (.int .u8 ((UInt8.ofNat (48 + n % 10)).toNat : Nat))
      rw [Math.digit_toNat]
      congr 2
    | succ t =>
      have ht' : t < l.length := by simpa using ht
      rw [World.cell?_setCell_other _ _ _ _ (by intro e; simp at e), show j + (t + 1) = j + 1 + t by omega, h5 t ht']
      rfl
  · exact h6.setCell (Nat.le_refl _) _
theorem DecRel.done {w : World} {v k : Nat} {l : List UInt8} {wr : World} (R : DecRel w v k 0 l wr) (h : 0 < v) : l = Math.decT v ∧ k < 20 := by
  have ht := R.text
  rw [Math.decF_zero, List.nil_append] at ht
  rw [Math.decT_pos (by omega), ht]
  refine ⟨rfl, ?_⟩
  have hne : l ≠ [] := by
    intro e
    have := Math.decT_ne v
    rw [Math.decT_pos (by omega), ht] at this
    exact this e
  have hl := R.len
  have : l.length ≠ 0 := fun e => hne (List.length_eq_zero_iff.1 e)
  omega

theorem dec_start (w : World) (v : Nat) (h : v ≤ 9223372036854775807) : DecRel w v 20 v [] (w.alloc (.cells #[.int .u8 0, .int .u8 0, .int .u8 0, .int .u8 0, .int .u8 0, .int .u8 0, .int .u8 0, .int .u8 0, .int .u8 0, .int .u8 0, .int .u8 0, .int .u8 0, .int .u8 0, .int .u8 0, .int .u8 0, .int .u8 0, .int .u8 0, .int .u8 0, .int .u8 0, .int .u8 0] 35)) where
  small := Nat.lt_of_le_of_lt h (by decide)
  len := rfl
  text := by simp
  there := by
    intro j hj
    match j, hj with
    | 0, _ | 1, _ | 2, _ | 3, _ | 4, _ | 5, _ | 6, _ | 7, _ | 8, _ | 9, _ | 10, _ | 11, _ | 12, _ | 13, _ | 14, _ | 15, _ | 16, _ | 17, _ | 18, _ | 19, _ => exact ⟨.int .u8 0, by simp [go_sem]⟩
    | j + 20, h => exact absurd h (by omega)
  holds := fun t h => by simp at h
  grown := (Grown.refl _).alloc _ _

set_option maxHeartbeats 1000000 in
theorem dec18 (v : Nat) (w : World) (h0 : 0 < v) (h1 : v ≤ 9223372036854775807) :
    Calls Try.prog 18 #[.int .i64 v] w fun e w' => ∃ t : ByteArray, e = .returned (.string t) ∧ Grown w w' ∧ t.data.toList = Math.decT v := by
  go_enter Try.func18, Try.ntmps18
  go_wp2
  go_loopw [4, 6] (fun u i wr => ∃ (k n : Nat) (l : List UInt8), k ≤ 20 ∧ n ≤ v ∧ u = .int .u64 n ∧ i = .int .i64 k ∧ DecRel w v k n l wr) (fun _ i _ => (ival i).toNat)
  case atStart => exact ⟨20, v, [], by omega, by omega, rfl, rfl, dec_start w v h1⟩
  case round =>
    obtain ⟨k, n, l, hk, hnv, rfl, rfl, hR⟩ := hrel
    have HR : Hid (DecRel w v k n l wr) := hR
    clear hR
    by_cases hlt : 0 < n
    · obtain ⟨j, rfl⟩ := HR.out.more hlt
      obtain ⟨x, hx⟩ := HR.out.there j (by omega)
      have hf := HR.out.free j
      have HS := hid (HR.out.step hlt)
      go_wp2
      go_roundw
      case rel => exact ⟨j, n / 10, _, by omega, by omega, by go_num, rfl, HS.out⟩
      case measure => simp [ival]
    · obtain rfl : n = 0 := by omega
      have HD := hid (HR.out.done h0)
      have hk20 := HD.out.2
      have hsl := fun W => slice_buf W w.heap.size k hk20
      have hcv := conv_buf wr w.heap.size k l HR.out.len HR.out.holds
      go_wp2
      go_ret
      exact ⟨_, rfl, HR.out.grown, by rw [← HD.out.1]⟩
theorem dec18_zero (w : World) :
    Calls Try.prog 18 #[.int .i64 0] w fun e w' => ∃ t : ByteArray, e = .returned (.string t) ∧ Grown w w' ∧ t.data.toList = Math.decT 0 := by
  go_enter Try.func18, Try.ntmps18
  go_wp2
  go_ret
  exact ⟨_, rfl, Grown.refl _, rfl⟩
theorem dec18_any (v : Nat) (w : World) (h1 : v ≤ 9223372036854775807) :
    Calls Try.prog 18 #[.int .i64 v] w fun e w' => ∃ t : ByteArray, e = .returned (.string t) ∧ Grown w w' ∧ t.data.toList = Math.decT v := by
  by_cases h : v = 0
  · subst h; exact dec18_zero w
  · exact dec18 v w (by omega) h1
end Go.Proofs.Qxb6605544a
