import Derived.Test.Qxb6604715aRows
import Derived.WalkKit
import Derived.ProofKit
import Derived.WalkSpells
import Derived.Deep.QuietTactic
import Derived.BigQuiet
import Derived.Deep.OwnRows
import Derived.Laws.AppendOwnNone
namespace Go.Proofs.Qxb6604715a.ser
open Go.ChangeShapes Go.WideShapes Go.ChangeAt Go.RowKit
set_option linter.unusedVariables false
set_option maxRecDepth 20000

theorem info5 : (Try.prog.info? 5).map (fun i => (i.zero, i.size, i.bytes)) = some (some (.int .u8 0), 1, 1) := by kernel_rfl
theorem cells_new (w : World) (l : List Value) : ∀ j u, l[j]? = some u → (w.alloc (.cells l.toArray 5)).cell? ((⟨w.heap.size, 0, none⟩ : Addr).add j) = some u := by
  intro j u hu
  have hadd : (⟨w.heap.size, 0, none⟩ : Addr).add j = ⟨w.heap.size, j, none⟩ := by unfold Addr.add; split <;> simp_all
  rw [hadd, cell_of_row _ _ _ _ _ _ (heap_alloc_new w (.cells l.toArray 5))]
  simpa using hu
theorem grown_alloc {w w' : World} {o : Obj} {row : Option Nat} (h : (w.alloc o).grownBy w' row) : w.grownBy w' row :=
  ⟨h.os, h.tape, h.output, by have := h.size; simp at this; omega, fun k hk hr => (h.block k (by simp; omega) hr).trans (Below.heap_alloc w o k hk)⟩

/-- What is laid behind a row of the call's own. -/
def Laid (base n : Nat) (v : Value) (xs : List Value) (l : List Int) (w : World) (e : Ending) (w' : World) : Prop :=
  ∃ v', e = .returned v' ∧ w'.ownsRow base 5 1 v' (n + l.length) (xs ++ l.map (Value.int .u8)) ∧ w.grownBy w' v.ownBlock

set_option maxHeartbeats 400000 in
theorem der1 (base n : Nat) (v : Value) (xs : List Value) (q : Int) (w : World) (hown : w.ownsRow base 5 1 v n xs) (hn : n ≤ 4000000) (hb : base ≤ w.heap.size) (h0 : 0 ≤ q) (h1 : q < 128) :
    Calls Try.prog 13 #[v, .int .i64 q] w (Laid base n v xs [q] w) := by
  obtain ⟨i, hi, hz0, hz1, hz2⟩ := info_parts info5
  have HO : Hid (w.ownsRow base 5 1 v n xs) := hown
  clear hown
  have t0 : decide (q < 128) = true := by simp; omega
  go_enter Try.func13, Try.ntmps13
  go_wp2_with (first | (at_builtin; refine wpList_append_own _ rfl _ _ 31 rfl base 5 i (.int .u8 0) 1 1 Try.underlying31 hi hz0 hz1 hz2 rfl (by decide) _ _ _ rfl (HO.out.alloc _) ⟨w.heap.size, 0, none⟩ 1 1 [.int .u8 (q)] rfl rfl ?c1 ?c2 ?c3 ?c4 ?c5 ?c6))
  case c1 => exact cells_new w [.int .u8 (q)]
  case c2 => exact ints_oneCell .u8 [q]
  case c3 => unfold maxLen; omega
  case c4 => omega
  case c5 => simp; omega
  case c6 =>
    intro v' w' ho hg _
    have HO2 : Hid (w'.ownsRow base 5 1 v' (n + 1) (xs ++ [.int .u8 (q)])) := ho
    have HG : Hid (w.grownBy w' v.ownBlock) := grown_alloc hg
    clear ho hg
    go_wp2
    go_ret
    exact ⟨v', rfl, HO2.out, HG.out⟩

set_option maxHeartbeats 400000 in
theorem der2 (base n : Nat) (v : Value) (xs : List Value) (q : Int) (w : World) (hown : w.ownsRow base 5 1 v n xs) (hn : n ≤ 4000000) (hb : base ≤ w.heap.size) (h1 : 128 ≤ q) (h2 : q < 256) :
    Calls Try.prog 13 #[v, .int .i64 q] w (Laid base n v xs [129, q] w) := by
  obtain ⟨i, hi, hz0, hz1, hz2⟩ := info_parts info5
  have HO : Hid (w.ownsRow base 5 1 v n xs) := hown
  clear hown
  have t0 : decide (q < 128) = false := by simp; omega
  have t1 : decide (q < 256) = true := by simp; omega
  go_enter Try.func13, Try.ntmps13
  go_wp2_with (first | (at_builtin; refine wpList_append_own _ rfl _ _ 31 rfl base 5 i (.int .u8 0) 1 1 Try.underlying31 hi hz0 hz1 hz2 rfl (by decide) _ _ _ rfl (HO.out.alloc _) ⟨w.heap.size, 0, none⟩ 2 2 [.int .u8 (129), .int .u8 (q)] rfl rfl ?c1 ?c2 ?c3 ?c4 ?c5 ?c6))
  case c1 => exact cells_new w [.int .u8 (129), .int .u8 (q)]
  case c2 => exact ints_oneCell .u8 [129, q]
  case c3 => unfold maxLen; omega
  case c4 => omega
  case c5 => simp; omega
  case c6 =>
    intro v' w' ho hg _
    have HO2 : Hid (w'.ownsRow base 5 1 v' (n + 2) (xs ++ [.int .u8 (129), .int .u8 (q)])) := ho
    have HG : Hid (w.grownBy w' v.ownBlock) := grown_alloc hg
    clear ho hg
    go_wp2
    go_ret
    exact ⟨v', rfl, HO2.out, HG.out⟩

set_option maxHeartbeats 400000 in
theorem der3 (base n : Nat) (v : Value) (xs : List Value) (q : Int) (w : World) (hown : w.ownsRow base 5 1 v n xs) (hn : n ≤ 4000000) (hb : base ≤ w.heap.size) (h1 : 256 ≤ q) (h2 : q < 65536) :
    Calls Try.prog 13 #[v, .int .i64 q] w (Laid base n v xs [130, q / 256, q % 256] w) := by
  obtain ⟨i, hi, hz0, hz1, hz2⟩ := info_parts info5
  have HO : Hid (w.ownsRow base 5 1 v n xs) := hown
  clear hown
  have t0 : decide (q < 128) = false := by simp; omega
  have t1 : decide (q < 256) = false := by simp; omega
  have t2 : decide (q < 65536) = true := by simp; omega
  go_enter Try.func13, Try.ntmps13
  go_wp2_with (first | (at_builtin; refine wpList_append_own _ rfl _ _ 31 rfl base 5 i (.int .u8 0) 1 1 Try.underlying31 hi hz0 hz1 hz2 rfl (by decide) _ _ _ rfl (HO.out.alloc _) ⟨w.heap.size, 0, none⟩ 3 3 [.int .u8 (130), .int .u8 (q / 256), .int .u8 (q % 256)] rfl rfl ?c1 ?c2 ?c3 ?c4 ?c5 ?c6))
  case c1 => exact cells_new w [.int .u8 (130), .int .u8 (q / 256), .int .u8 (q % 256)]
  case c2 => exact ints_oneCell .u8 [130, q / 256, q % 256]
  case c3 => unfold maxLen; omega
  case c4 => omega
  case c5 => simp; omega
  case c6 =>
    intro v' w' ho hg _
    have HO2 : Hid (w'.ownsRow base 5 1 v' (n + 3) (xs ++ [.int .u8 (130), .int .u8 (q / 256), .int .u8 (q % 256)])) := ho
    have HG : Hid (w.grownBy w' v.ownBlock) := grown_alloc hg
    clear ho hg
    go_wp2
    go_ret
    exact ⟨v', rfl, HO2.out, HG.out⟩

set_option maxHeartbeats 400000 in
theorem der4 (base n : Nat) (v : Value) (xs : List Value) (q : Int) (w : World) (hown : w.ownsRow base 5 1 v n xs) (hn : n ≤ 4000000) (hb : base ≤ w.heap.size) (h1 : 65536 ≤ q) (h2 : q < 16777216) :
    Calls Try.prog 13 #[v, .int .i64 q] w (Laid base n v xs [131, q / 65536, q / 256 % 256, q % 256] w) := by
  obtain ⟨i, hi, hz0, hz1, hz2⟩ := info_parts info5
  have HO : Hid (w.ownsRow base 5 1 v n xs) := hown
  clear hown
  have t0 : decide (q < 128) = false := by simp; omega
  have t1 : decide (q < 256) = false := by simp; omega
  have t2 : decide (q < 65536) = false := by simp; omega
  go_enter Try.func13, Try.ntmps13
  go_wp2_with (first | (at_builtin; refine wpList_append_own _ rfl _ _ 31 rfl base 5 i (.int .u8 0) 1 1 Try.underlying31 hi hz0 hz1 hz2 rfl (by decide) _ _ _ rfl (HO.out.alloc _) ⟨w.heap.size, 0, none⟩ 4 4 [.int .u8 (131), .int .u8 (q / 65536), .int .u8 (q / 256 % 256), .int .u8 (q % 256)] rfl rfl ?c1 ?c2 ?c3 ?c4 ?c5 ?c6))
  case c1 => exact cells_new w [.int .u8 (131), .int .u8 (q / 65536), .int .u8 (q / 256 % 256), .int .u8 (q % 256)]
  case c2 => exact ints_oneCell .u8 [131, q / 65536, q / 256 % 256, q % 256]
  case c3 => unfold maxLen; omega
  case c4 => omega
  case c5 => simp; omega
  case c6 =>
    intro v' w' ho hg _
    have HO2 : Hid (w'.ownsRow base 5 1 v' (n + 4) (xs ++ [.int .u8 (131), .int .u8 (q / 65536), .int .u8 (q / 256 % 256), .int .u8 (q % 256)])) := ho
    have HG : Hid (w.grownBy w' v.ownBlock) := grown_alloc hg
    clear ho hg
    go_wp2
    go_ret
    exact ⟨v', rfl, HO2.out, HG.out⟩

end Go.Proofs.Qxb6604715a.ser
