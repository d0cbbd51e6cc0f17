import Derived.Test.Qxb6604205aBase
namespace Go.Proofs.Qxb6604205a.base
open Go.ChangeShapes Go.WideShapes Go.ChangeAt Go.RowKit

set_option maxHeartbeats 400000 in
theorem clone_at (x : Addr) (n c : Nat) (f : Nat → Int) (w : World) (hn : n ≤ 1048576) (hc : ∀ i, i < n → w.cell? (x.add i) = some (.int .u8 (f i))) :
    Calls Try.prog 7 #[.slice (some x) n c] w fun e w' => e = .returned (.slice (some ⟨w.heap.size, 0, none⟩) n n) ∧ (∀ i, i < n → w'.cell? ⟨w.heap.size, i, none⟩ = some (.int .u8 (f i))) ∧ Below w.heap.size w w' := by
  have h1 := hnil
  have h2 := hmk n hn
  have HC : Hid (∀ i, i < n → w.cell? (x.add i) = some (.int .u8 (f i))) := hc
  clear hc
  go_enter Try.func7, Try.ntmps7
  go_wp2_with (first | (refine wpList_copy_splice rfl (.tmp 9) (.tmp 10) 22 22 rfl 5 Try.underlying22 (by kernel_rfl) _ _ _ _ _ _ rfl rfl w.heap.size 0 (madeCells #[.int .u8 0] n).toList 5 ?hg ((List.range n).map (fun i => Value.int .u8 (f i))) ?hn ?hpos ?hfit ?h1 w.heap.size w ?hb (Nat.le_refl _) ?next))
  case hg =>
    have := heap_alloc_new w (.cells (madeCells #[.int .u8 0] n) 5)
    simpa using this
  case hn => simp [Nat.min]
  case hpos =>
    intro _ j a ha
    obtain ⟨rfl, hj⟩ := range_at ha
    exact cell_later ((Below.refl _ _).alloc (Nat.le_refl _) _) (HC.out _ hj)
  case hfit => simp [size_madeCells]
  case h1 =>
    intro v hv
    obtain ⟨i, _, rfl⟩ := List.mem_map.1 hv
    rfl
  case hb => exact (Below.refl _ _).alloc (Nat.le_refl _) _
  case next =>
    intro w2 hg2 hb2
    go_wp2
    go_ret
    refine ⟨rfl, ?_, hb2⟩
    intro i hi
    rw [cell_of_row _ _ _ _ _ _ hg2.out]
    exact splice_at _ _ _ _ hi
end Go.Proofs.Qxb6604205a.base
