import Derived.Test.Qxb6604205aRows
import Derived.WalkKit
import Derived.ProofKit
import Derived.WalkSpells
import Derived.Laws.CopyOwn
import Derived.Deep.QuietTactic
import Derived.BigQuiet
namespace Go.Proofs.Qxb6604205a.base
open Go.ChangeShapes Go.WideShapes Go.ChangeAt Go.RowKit

theorem info5 : (Try.prog.info? 5).map (fun i => (i.zero, i.size, i.bytes)) = some (some (.int .u8 0), 1, 1) := by kernel_rfl

theorem hmk (n : Nat) (hn : n ≤ 1048576) (w : World) :
    (Instr.makeSlice 22 (.int .i64 (n : Int)) (.int .i64 (n : Int))).run Try.prog w = .ok (.slice (some ⟨w.heap.size, 0, none⟩) n n) (w.alloc (.cells (madeCells #[.int .u8 0] n) 5)) := by
  obtain ⟨i, hi, hz0, hz1, hz2⟩ := info_parts info5
  have h := run_make (P := Try.prog) w 22 5 i (.int .u8 0) Try.underlying22 hi hz0 .i64 .i64 (n : Int) (n : Int) (by omega) (by omega) (by rw [hz2]; omega) (by omega)
  rw [h, hz1]
  simp [Value.cells]

theorem hnil (w : World) (a : Option Addr) (n c n' c' : Nat) : (binOp .eql 22 (.slice a n c) (.slice none n' c')).run Try.prog w = .ok (.bool a.isNone) w := Lib.run_eql_slice_nil w _ _ a n c n' c' Try.underlying22

set_option maxHeartbeats 400000 in
theorem clone_nil (w : World) :
    Calls Try.prog 7 #[.slice none 0 0] w fun e w' => e = .returned (.slice none 0 0) ∧ w' = w := by
  have h1 := hnil
  go_enter Try.func7, Try.ntmps7
  go_wp2
  go_ret
  exact ⟨rfl, rfl⟩

theorem range_at {n j a : Nat} (h : (List.range n)[j]? = some a) : j = a ∧ j < n := by
  obtain ⟨hj, e⟩ := List.getElem?_eq_some_iff.1 h
  simp at e hj
  exact ⟨e, hj⟩

theorem splice_at (cur : List Value) (n : Nat) (g : Nat → Value) (i : Nat) (hi : i < n) : (splice cur 0 ((List.range n).map g)).toArray[i]? = some (g i) := by
  unfold splice
  have h : i < ((List.range n).map g).length := by simpa using hi
  simp only [List.take_zero, List.nil_append, List.getElem?_toArray]
  rw [List.getElem?_append_left h]
  simp [hi]

theorem below_drewN {w : World} (n : Nat) : Below w.heap.size w (w.drewN n) := ⟨rfl, rfl, rfl, Nat.le_refl _, fun _ _ => rfl⟩

set_option maxHeartbeats 400000 in
theorem clone_some (b off n c : Nat) (f : Nat → Int) (w : World) (hn : n ≤ 1048576) (hc : ∀ i, i < n → w.cell? ⟨b, off + i, none⟩ = some (.int .u8 (f i))) :
    Calls Try.prog 7 #[.slice (some ⟨b, off, none⟩) n c] w fun e w' => e = .returned (.slice (some ⟨w.heap.size, 0, none⟩) n n) ∧ (∀ i, i < n → w'.cell? ⟨w.heap.size, i, none⟩ = some (.int .u8 (f i))) ∧ Below w.heap.size w w' := by
  have h1 := hnil
  have h2 := hmk n hn
  have HC : Hid (∀ i, i < n → w.cell? ⟨b, off + i, none⟩ = some (.int .u8 (f i))) := hc
  clear hc
  go_enter Try.func7, Try.ntmps7
  go_wp2_with (first | (refine wpList_copy_splice rfl (.tmp 9) (.tmp 10) 22 22 rfl 5 Try.underlying22 (by kernel_rfl) _ _ _ _ _ _ rfl rfl w.heap.size 0 (madeCells #[.int .u8 0] n).toList 5 ?hg ((List.range n).map (fun i => Value.int .u8 (f i))) ?hn ?hpos ?hfit ?h1 w.heap.size w ?hb (Nat.le_refl _) ?next))
  case hg =>
    have := heap_alloc_new w (.cells (madeCells #[.int .u8 0] n) 5)
    simpa using this
  case hn => simp [Nat.min]
  case hpos =>
    intro _ j a ha
    obtain ⟨rfl, hj⟩ := range_at ha
    exact cell_later ((Below.refl _ _).alloc (Nat.le_refl _) _) (HC.out _ hj)
  case hfit => simp [size_madeCells]
  case h1 =>
    intro v hv
    obtain ⟨i, _, rfl⟩ := List.mem_map.1 hv
    rfl
  case hb => exact (Below.refl _ _).alloc (Nat.le_refl _) _
  case next =>
    intro w2 hg2 hb2
    go_wp2
    go_ret
    refine ⟨rfl, ?_, hb2⟩
    intro i hi
    rw [cell_of_row _ _ _ _ _ _ hg2.out]
    exact splice_at _ _ _ _ hi
end Go.Proofs.Qxb6604205a.base
