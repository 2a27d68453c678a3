/-
  SEAT b6606291a: A TEXT IN MEMORY; THE WALK OF sjb1CloneBytes; A NEW Reader OVER A TEXT.
-/
import Derived.Test.Qxb6606291aReader
import Derived.ProofKit
import Derived.Deep.OwnRows
import Derived.Lib.SliceRun
namespace Go.Proofs.Qxb6606291a
open Go.RowKit

/-- A slice of bytes that came in: nil; or an address; where there is an element its cells lie there. -/
def Src (w : World) (a : Option Addr) (len : Nat) (f : Nat → Int) : Prop :=
  (a = none ∧ len = 0) ∨ ∃ xb xo xs, a = some ⟨xb, xo, xs⟩ ∧ ∀ k, k < len → xs = none ∧ xb < w.heap.size ∧ w.cell? ⟨xb, xo + k, none⟩ = some (.int .u8 (f k))
/-- A slice of bytes whose cells lie at the head of a block below B. -/
def Tx (w : World) (B : Nat) (ta : Option Addr) (len : Nat) (f : Nat → Int) : Prop :=
  ∀ k, k < len → ∃ t, t < B ∧ ta = some ⟨t, 0, none⟩ ∧ w.cell? ⟨t, k, none⟩ = some (.int .u8 (f k))
theorem cell_lt {w : World} {b o : Nat} {v : Value} (h : w.cell? ⟨b, o, none⟩ = some v) : b < w.heap.size := by
  apply Nat.lt_of_not_le
  intro hb
  have e : w.heap[b]? = none := Array.getElem?_eq_none hb
  simp [World.cell?, e] at h

theorem info5 : (Try.prog.info? 5).map (fun i => (i.zero, i.size, i.bytes)) = some (some (.int .u8 0), 1, 1) := by kernel_rfl
/-- What the copying loop knows: the first k cells are copied. -/
structure CopyRel (w : World) (len : Nat) (g : Nat → Int) (k : Nat) (wr : World) : Prop where
  row : wr.rowIs w.heap.size 5 len (fun j => if j < k then .int .u8 (g j) else .int .u8 0)
  below : Below w.heap.size w wr
  size : wr.heap.size = w.heap.size + 1
theorem CopyRel.start (w : World) (len : Nat) (g : Nat → Int) : CopyRel w len g 0 (w.alloc (.cells (madeCells #[.int .u8 0] len) 5)) where
  row := (World.rowIs_made w (.int .u8 0) len 5).congr (fun i _ => by simp)
  below := (Below.refl _ _).alloc (Nat.le_refl _) _
  size := by simp
theorem CopyRel.step {w : World} {len : Nat} {g : Nat → Int} {k : Nat} {wr : World} (R : CopyRel w len g k wr) : CopyRel w len g (k + 1) (wr.setCell ⟨w.heap.size, k, none⟩ (.int .u8 (g k))) where
  row := (R.row.set k (.int .u8 (g k))).congr (fun i _ => by
    by_cases e : i = k
    · subst e; simp
    · by_cases e2 : i < k
      · rw [if_neg e, if_pos e2, if_pos (by omega)]
      · rw [if_neg e, if_neg e2, if_neg (by omega)])
  below := R.below.setCell (Nat.le_refl _) _
  size := by simpa [World.setCell] using R.size
theorem CopyRel.text {w : World} {len : Nat} {g : Nat → Int} {wr : World} (R : CopyRel w len g len wr) : Tx wr wr.heap.size (some ⟨w.heap.size, 0, none⟩) len g := fun k hk =>
  ⟨w.heap.size, by rw [R.size]; omega, rfl, by have := R.row.cell hk; rw [this, if_pos hk]⟩

set_option maxHeartbeats 1000000 in
theorem clone13 (w : World) (a : Option Addr) (len cap : Nat) (f : Nat → Int) (hlen : len ≤ 1048576) (hs : Src w a len f) :
    Calls Try.prog 13 #[.slice a len cap] w fun e w' => ∃ ta cap', e = .returned (.slice ta len cap') ∧ Below w.heap.size w w' ∧ Tx w' w'.heap.size ta len f := by
  have hnl := fun w a n c => Lib.run_eql_slice_nil (P := Try.prog) w 22 5 a n c 0 0 Try.underlying22
  rcases hs with ⟨rfl, rfl⟩ | ⟨xb, xo, xs, rfl, hc⟩
  · go_enter Try.func13, Try.ntmps13
    go_wp2
    go_ret
    exact ⟨_, _, rfl, Below.refl _ _, fun k hk => absurd hk (by omega)⟩
  · have HC := hid hc
    clear hc
    have hmk := fun w => run_make_row' (P := Try.prog) 22 5 (.int .u8 0) 1 Try.underlying22 info5 rfl .i64 .i64 len (by omega) (by omega) w
    go_enter Try.func13, Try.ntmps13
    go_wp2
    clear hmk hnl
    go_loopw [4] (fun i wr => ∃ k : Nat, k ≤ len ∧ i = .int .i64 k ∧ CopyRel w len f k wr) (fun i _ => len - (ival i).toNat)
    case atStart => exact ⟨0, Nat.zero_le _, rfl, CopyRel.start w len f⟩
    case round =>
      obtain ⟨k, hk, rfl, hR⟩ := hrel
      have HR := hid hR
      clear hR
      by_cases hlt : k < len
      · obtain ⟨rfl, hb, hc⟩ := HC.out k hlt
        have hcr : wr.cell? ⟨xb, xo + k, none⟩ = some (.int .u8 (f k)) := by rw [HR.out.below.cell (p := ⟨xb, xo + k, none⟩) hb]; exact hc
        have hcw := HR.out.row.cell hlt
        have hfw := HR.out.row.frozen k
        have HN := hid HR.out.step
        clear hc
        go_wp2
        go_roundw
        case rel => exact ⟨k + 1, by omega, by go_num, HN.out⟩
        case measure => simp [ival]; omega
      · obtain rfl : k = len := by omega
        go_wp2
        go_ret
        exact ⟨_, _, rfl, HR.out.below, HR.out.text⟩

/-- A new Reader over a text. -/
theorem Rd.new {w : World} {ta : Option Addr} {len cap : Nat} {f : Nat → Int} (p : Nat) (T : Tx w w.heap.size ta len f) : Rd (w.alloc (.cells #[.slice ta len cap, .int .i64 p] 36)) w.heap.size ta len cap f p where
  txt := by simp [go_sem]
  pos := by simp [go_sem]
  free := by
    rw [frozen?_alloc_cells]
    simp [World.frozen?]
  cells := fun k hk => by
    obtain ⟨t, h1, h2, h3⟩ := T k hk
    exact ⟨t, h1, h2, by rw [World.cell?_alloc_lt _ _ _ h1]; exact h3⟩

/-! ### From what the row's step tells of a slice of bytes that came in -/
theorem src_of_row {w : World} {a : Option Addr} {len cap : Nat} {zs : List Int}
    (h : (a = none ∧ len = 0 ∧ cap = 0 ∧ zs = []) ∨ ∃ x, a = some x ∧ len ≤ cap ∧ cap ≤ maxLen ∧ zs.length = cap ∧ (∀ i, i < zs.length → w.cell? (x.add i) = some (.int .u8 (zs.getD i 0))) ∧ ∀ n ∈ zs, (Lit.int .u8 n).wf = true) :
    Src w a len (fun k => zs.getD k 0) ∧ (∀ k, 0 ≤ zs.getD k 0 ∧ zs.getD k 0 ≤ 255) ∧ len ≤ 9223372036854775807 := by
  rcases h with ⟨rfl, rfl, rfl, rfl⟩ | ⟨x, rfl, hl, hm, hz, hc, hw⟩
  · exact ⟨Or.inl ⟨rfl, rfl⟩, fun k => by simp, by omega⟩
  · obtain ⟨xb, xo, xs⟩ := x
    unfold maxLen at hm
    refine ⟨Or.inr ⟨xb, xo, xs, rfl, fun k hk => ?_⟩, fun k => ?_, by omega⟩
    · have h1 := hc k (by omega)
      have hs : xs = none := by simpa [Addr.add] using World.cell?_spot (hc 0 (by omega))
      subst hs
      have h2 : w.cell? ⟨xb, xo + k, none⟩ = some (.int .u8 (zs.getD k 0)) := by rw [← Go.WideShapes.add_plain]; exact h1
      exact ⟨rfl, cell_lt h2, h2⟩
    · by_cases e : k < zs.length
      · have hx : zs.getD k 0 ∈ zs := by
          have : zs.getD k 0 = zs[k] := by simp [List.getD, List.getElem?_eq_getElem e]
          rw [this]; exact List.getElem_mem e
        have := hw _ hx
        simpa [Lit.wf, IntKind.min, IntKind.max, IntKind.signed, IntKind.bits] using this
      · have : zs.getD k 0 = 0 := by simp [List.getD, List.getElem?_eq_none (Nat.le_of_not_lt e)]
        rw [this]; exact ⟨by omega, by omega⟩
end Go.Proofs.Qxb6606291a
