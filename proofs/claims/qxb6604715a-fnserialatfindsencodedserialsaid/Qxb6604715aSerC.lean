import Derived.Test.Qxb6604715aSerB
import Derived.LoopN
import Derived.Laws.BitsAllLaws
namespace Go.Proofs.Qxb6604715a.ser
open Go.ChangeShapes Go.WideShapes Go.ChangeAt Go.RowKit
set_option linter.unusedVariables false
set_option maxRecDepth 20000

theorem orm (a y : Int) (h0 : 0 ≤ a) (h1 : a < 16777216) (h2 : 0 ≤ y) (h3 : y < 256) : bits BinOp.or IntKind.u32 (a * 256 % 4294967296) y = a * 256 + y := by
  obtain ⟨m, rfl⟩ := Int.eq_ofNat_of_zero_le h0
  obtain ⟨k, rfl⟩ := Int.eq_ofNat_of_zero_le h2
  have e : ((m : Int) * 256 % 4294967296) = ((m * 256 : Nat) : Int) := by omega
  rw [e, u32_or_nat (m * 256) k (by omega) (by omega), show m * 256 = m * 2 ^ 8 from rfl, ← Nat.shiftLeft_eq, ← Nat.shiftLeft_add_eq_or_of_lt (by omega), Nat.shiftLeft_eq]
  omega
theorem or0 (y : Int) (h2 : 0 ≤ y) (h3 : y < 256) : bits BinOp.or IntKind.u32 0 y = y := by
  have := orm 0 y (by omega) (by omega) h2 h3
  simpa using this

set_option maxHeartbeats 1600000 in
theorem readU1 (S O E o n c : Nat) (t : TypeId) (u : Value) (x : Int) (w : World) (hS : Boxed w S 107 (.slice (some ⟨E, o, none⟩) n c)) (hO : Boxed w O t u) (hSO : O ≠ S) (hE : E ≠ S) (hk : 1 ≤ n) (hn : n ≤ c) (h0 : w.cell? ⟨E, o, none⟩ = some (.int .u8 x)) (b0 : 0 ≤ x) (b0' : x < 256) :
    Calls Try.prog 43 #[.pointer (some ⟨S, 0, none⟩), .pointer (some ⟨O, 0, none⟩), .int .i64 1] w fun e w' => e = .returned (.bool true) ∧ w' = (w.setCell ⟨S, 0, none⟩ (.slice (some (adv E o 1 c)) (n - 1) (c - 1))).setCell ⟨O, 0, none⟩ (.int .u32 (x)) := by
  obtain ⟨W, hW⟩ : ∃ W, w.setCell ⟨S, 0, none⟩ (.slice (some (adv E o 1 c)) (n - 1) (c - 1)) = W := ⟨_, rfl⟩
  have hO' : Boxed W O t u := by
    rw [← hW]
    exact hO.kept (grownBy_setCell' w S _) (by simpa using hSO)
  have hc := hO'.cell
  have hf := hO'.frozen
  have hnil := someNil
  have hb : W.heap[E]? = w.heap[E]? := by rw [← hW]; exact Below.heap_setCell _ _ _ _ hE
  have g0 : W.cell? ⟨E, o, none⟩ = some (.int .u8 x) := (World.cell?_of_block (w := w) hb).trans h0
  go_enter Try.func43, Try.ntmps43
  go_wp2_with fail
  refine (read S E o n c 1 w hS hk hn).mono ?_
  rintro e w' ⟨rfl, rfl⟩
  rw [hW]
  go_wp2_with fail
  refine wp_loop_rounds 2 ?_
  rw [rounds_succ]
  go_wp2_with fail
  rw [rounds_succ]
  go_wp2_with fail
  go_ret
  exact ⟨rfl, by rw [hW, or0 x b0 b0']⟩

set_option maxHeartbeats 1600000 in
theorem readU2 (S O E o n c : Nat) (t : TypeId) (u : Value) (x y : Int) (w : World) (hS : Boxed w S 107 (.slice (some ⟨E, o, none⟩) n c)) (hO : Boxed w O t u) (hSO : O ≠ S) (hE : E ≠ S) (hk : 2 ≤ n) (hn : n ≤ c) (h0 : w.cell? ⟨E, o, none⟩ = some (.int .u8 x)) (h1 : w.cell? ⟨E, o + 1, none⟩ = some (.int .u8 y)) (b0 : 0 ≤ x) (b0' : x < 256) (b1 : 0 ≤ y) (b1' : y < 256) :
    Calls Try.prog 43 #[.pointer (some ⟨S, 0, none⟩), .pointer (some ⟨O, 0, none⟩), .int .i64 2] w fun e w' => e = .returned (.bool true) ∧ w' = (w.setCell ⟨S, 0, none⟩ (.slice (some (adv E o 2 c)) (n - 2) (c - 2))).setCell ⟨O, 0, none⟩ (.int .u32 (x * 256 + y)) := by
  obtain ⟨W, hW⟩ : ∃ W, w.setCell ⟨S, 0, none⟩ (.slice (some (adv E o 2 c)) (n - 2) (c - 2)) = W := ⟨_, rfl⟩
  have hO' : Boxed W O t u := by
    rw [← hW]
    exact hO.kept (grownBy_setCell' w S _) (by simpa using hSO)
  have hc := hO'.cell
  have hf := hO'.frozen
  have hnil := someNil
  have hb : W.heap[E]? = w.heap[E]? := by rw [← hW]; exact Below.heap_setCell _ _ _ _ hE
  have g0 : W.cell? ⟨E, o, none⟩ = some (.int .u8 x) := (World.cell?_of_block (w := w) hb).trans h0
  have g1 : W.cell? ⟨E, o + 1, none⟩ = some (.int .u8 y) := (World.cell?_of_block (w := w) hb).trans h1
  go_enter Try.func43, Try.ntmps43
  go_wp2_with fail
  refine (read S E o n c 2 w hS hk hn).mono ?_
  rintro e w' ⟨rfl, rfl⟩
  rw [hW]
  go_wp2_with fail
  refine wp_loop_rounds 3 ?_
  rw [rounds_succ]
  go_wp2_with fail
  rw [rounds_succ]
  go_wp2_with fail
  rw [rounds_succ]
  go_wp2_with fail
  go_ret
  exact ⟨rfl, by rw [hW, or0 x b0 b0', orm x y b0 (by omega) b1 b1']⟩

set_option maxHeartbeats 1600000 in
theorem readU3 (S O E o n c : Nat) (t : TypeId) (u : Value) (x y z : Int) (w : World) (hS : Boxed w S 107 (.slice (some ⟨E, o, none⟩) n c)) (hO : Boxed w O t u) (hSO : O ≠ S) (hE : E ≠ S) (hk : 3 ≤ n) (hn : n ≤ c) (h0 : w.cell? ⟨E, o, none⟩ = some (.int .u8 x)) (h1 : w.cell? ⟨E, o + 1, none⟩ = some (.int .u8 y)) (h2 : w.cell? ⟨E, o + 2, none⟩ = some (.int .u8 z)) (b0 : 0 ≤ x) (b0' : x < 256) (b1 : 0 ≤ y) (b1' : y < 256) (b2 : 0 ≤ z) (b2' : z < 256) :
    Calls Try.prog 43 #[.pointer (some ⟨S, 0, none⟩), .pointer (some ⟨O, 0, none⟩), .int .i64 3] w fun e w' => e = .returned (.bool true) ∧ w' = (w.setCell ⟨S, 0, none⟩ (.slice (some (adv E o 3 c)) (n - 3) (c - 3))).setCell ⟨O, 0, none⟩ (.int .u32 ((x * 256 + y) * 256 + z)) := by
  obtain ⟨W, hW⟩ : ∃ W, w.setCell ⟨S, 0, none⟩ (.slice (some (adv E o 3 c)) (n - 3) (c - 3)) = W := ⟨_, rfl⟩
  have hO' : Boxed W O t u := by
    rw [← hW]
    exact hO.kept (grownBy_setCell' w S _) (by simpa using hSO)
  have hc := hO'.cell
  have hf := hO'.frozen
  have hnil := someNil
  have hb : W.heap[E]? = w.heap[E]? := by rw [← hW]; exact Below.heap_setCell _ _ _ _ hE
  have g0 : W.cell? ⟨E, o, none⟩ = some (.int .u8 x) := (World.cell?_of_block (w := w) hb).trans h0
  have g1 : W.cell? ⟨E, o + 1, none⟩ = some (.int .u8 y) := (World.cell?_of_block (w := w) hb).trans h1
  have g2 : W.cell? ⟨E, o + 2, none⟩ = some (.int .u8 z) := (World.cell?_of_block (w := w) hb).trans h2
  go_enter Try.func43, Try.ntmps43
  go_wp2_with fail
  refine (read S E o n c 3 w hS hk hn).mono ?_
  rintro e w' ⟨rfl, rfl⟩
  rw [hW]
  go_wp2_with fail
  refine wp_loop_rounds 4 ?_
  rw [rounds_succ]
  go_wp2_with fail
  rw [rounds_succ]
  go_wp2_with fail
  rw [rounds_succ]
  go_wp2_with fail
  rw [rounds_succ]
  go_wp2_with fail
  go_ret
  exact ⟨rfl, by rw [hW, or0 x b0 b0', orm x y b0 (by omega) b1 b1', orm (x * 256 + y) z (by omega) (by omega) b2 b2']⟩

end Go.Proofs.Qxb6604715a.ser
