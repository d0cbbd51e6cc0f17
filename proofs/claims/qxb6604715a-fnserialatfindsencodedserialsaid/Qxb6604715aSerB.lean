import Derived.Test.Qxb6604715aSerA
import Derived.RangeFuncBox
import Derived.WalkLawsBesides
namespace Go.Proofs.Qxb6604715a.ser
open Go.ChangeShapes Go.WideShapes Go.ChangeAt Go.RowKit
set_option linter.unusedVariables false
set_option maxRecDepth 20000

theorem someNil (w : World) (a : Addr) (n c : Nat) : (binOp .eql 31 (.slice (some a) n c) (.slice none 0 0)).run Try.prog w = .ok (.bool false) w := Lib.run_eql_slice_nil w 31 5 (some a) n c 0 0 Try.underlying31

/-- Where a slice leads that is cut 'k' cells on. -/
def adv (E o k c : Nat) : Addr := if k = c then ⟨E, o, none⟩ else ⟨E, o + k, none⟩

set_option maxHeartbeats 800000 in
theorem read (S E o n c k : Nat) (w : World) (hS : Boxed w S 107 (.slice (some ⟨E, o, none⟩) n c)) (hk : k ≤ n) (hn : n ≤ c) :
    Calls Try.prog 50 #[.pointer (some ⟨S, 0, none⟩), .int .i64 (k : Int)] w fun e w' => e = .returned (.slice (some ⟨E, o, none⟩) k c) ∧ w' = w.setCell ⟨S, 0, none⟩ (.slice (some (adv E o k c)) (n - k) (c - k)) := by
  have hc := hS.cell
  have hf := hS.frozen
  have t1 : decide ((n : Int) < (k : Int)) = false := by simp; omega
  have t2 : decide ((k : Int) < 0) = false := by simp
  by_cases hkc : k = c
  · have ha : adv E o k c = ⟨E, o, none⟩ := if_pos hkc
    rw [ha]
    obtain rfl : k = n := by omega
    obtain rfl : k = c := by omega
    go_enter Try.func50, Try.ntmps50
    go_wp2_with fail
    go_ret
    exact ⟨rfl, by simp⟩
  · have ha : adv E o k c = ⟨E, o + k, none⟩ := if_neg hkc
    rw [ha]
    go_enter Try.func50, Try.ntmps50
    go_wp2_with fail
    go_ret
    exact ⟨rfl, rfl⟩

set_option maxHeartbeats 800000 in
theorem readBytes (S O E o n c k : Nat) (t : TypeId) (u : Value) (w : World) (hS : Boxed w S 107 (.slice (some ⟨E, o, none⟩) n c)) (hO : Boxed w O t u) (hSO : O ≠ S) (hk : k ≤ n) (hn : n ≤ c) :
    Calls Try.prog 44 #[.pointer (some ⟨S, 0, none⟩), .pointer (some ⟨O, 0, none⟩), .int .i64 (k : Int)] w fun e w' => e = .returned (.bool true) ∧ w' = (w.setCell ⟨S, 0, none⟩ (.slice (some (adv E o k c)) (n - k) (c - k))).setCell ⟨O, 0, none⟩ (.slice (some ⟨E, o, none⟩) k c) := by
  obtain ⟨W, hW⟩ : ∃ W, w.setCell ⟨S, 0, none⟩ (.slice (some (adv E o k c)) (n - k) (c - k)) = W := ⟨_, rfl⟩
  have hO' : Boxed W O t u := by
    rw [← hW]
    exact hO.kept (grownBy_setCell' w S _) (by simpa using hSO)
  have hc := hO'.cell
  have hf := hO'.frozen
  have hnil := someNil
  go_enter Try.func44, Try.ntmps44
  go_wp2_with fail
  refine (read S E o n c k w hS hk hn).mono ?_
  rintro e w' ⟨rfl, rfl⟩
  rw [hW]
  go_wp2_with fail
  go_ret
  exact ⟨rfl, by rw [hW]⟩

set_option maxHeartbeats 800000 in
theorem skip (S E o n c k : Nat) (w : World) (hS : Boxed w S 107 (.slice (some ⟨E, o, none⟩) n c)) (hk : k ≤ n) (hn : n ≤ c) :
    Calls Try.prog 45 #[.pointer (some ⟨S, 0, none⟩), .int .i64 (k : Int)] w fun e w' => e = .returned (.bool true) ∧ w' = w.setCell ⟨S, 0, none⟩ (.slice (some (adv E o k c)) (n - k) (c - k)) := by
  go_enter Try.func45, Try.ntmps45
  go_wp2_with fail
  refine (read S E o n c k w hS hk hn).mono ?_
  rintro e w' ⟨rfl, rfl⟩
  go_wp2_with fail
  go_ret
  exact ⟨rfl, rfl⟩
end Go.Proofs.Qxb6604715a.ser
