import Derived.Test.Qxb6604239aCopy
import Derived.Test.Qxb6604239aDec
import Derived.Test.Qxb6604239aJPlain
namespace Go.Proofs.Qxb6604239a.shortE
open Go.ChangeShapes Go.WideShapes Go.ChangeAt Go.RowKit
open Go.Proofs.Qxb6604239a.esc Go.Proofs.Qxb6604239a.dec Go.Proofs.Qxb6604239a.copy
set_option linter.unusedVariables false

def shB (c : Int) : Bool := c == 34 || (c == 92 || (c == 8 || (c == 9 || (c == 10 || (c == 12 || c == 13)))))

set_option maxHeartbeats 400000 in
theorem hasShort (c : Int) (w : World) : Calls Try.prog 18 #[.int .u8 c] w fun e w' => e = .returned (.bool (shB c)) ∧ w' = w := by
  unfold shB
  cases h1 : (c == 34)
  · cases h2 : (c == 92)
    · cases h3 : (c == 8)
      · cases h4 : (c == 9)
        · cases h5 : (c == 10)
          · cases h6 : (c == 12)
            · go_enter Try.func18, Try.ntmps18
              go_wp2
              go_ret
              exact ⟨rfl, rfl⟩
            · go_enter Try.func18, Try.ntmps18
              go_wp2
              go_ret
              exact ⟨rfl, rfl⟩
          · go_enter Try.func18, Try.ntmps18
            go_wp2
            go_ret
            exact ⟨rfl, rfl⟩
        · go_enter Try.func18, Try.ntmps18
          go_wp2
          go_ret
          exact ⟨rfl, rfl⟩
      · go_enter Try.func18, Try.ntmps18
        go_wp2
        go_ret
        exact ⟨rfl, rfl⟩
    · go_enter Try.func18, Try.ntmps18
      go_wp2
      go_ret
      exact ⟨rfl, rfl⟩
  · go_enter Try.func18, Try.ntmps18
    go_wp2
    go_ret
    exact ⟨rfl, rfl⟩

theorem isLower (d : Int) (d0 : 0 ≤ d) (d16 : d < 16) (w : World) : Calls Try.prog 19 #[.int .u8 (hx d)] w fun e w' => e = .returned (.bool true) ∧ w' = w := by
  by_cases h : d < 10
  · have e : hx d = 48 + d := by unfold hx; rw [if_pos h]
    rw [e]; clear e
    have t1 : 48 ≤ 48 + d := by omega
    have t2 : 48 + d ≤ 57 := by omega
    go_enter Try.func19, Try.ntmps19
    go_wp2
    go_ret
    exact ⟨rfl, rfl⟩
  · have e : hx d = 87 + d := by unfold hx; rw [if_neg h]
    rw [e]; clear e
    have t1 : 48 ≤ 87 + d := by omega
    have t2 : decide (87 + d ≤ 57) = false := decide_eq_false (by omega)
    have t3 : 97 ≤ 87 + d := by omega
    have t4 : 87 + d ≤ 102 := by omega
    go_enter Try.func19, Try.ntmps19
    go_wp2
    go_ret
    exact ⟨rfl, rfl⟩

theorem esc_short {c : Int} (h : shB c = true) : (esc c).length = 2 := by
  unfold shB at h
  simp only [Bool.or_eq_true, beq_iff_eq] at h
  rcases h with rfl | rfl | rfl | rfl | rfl | rfl | rfl <;> rfl
theorem esc_long {c : Int} (h : shB c = false) : esc c = [92, 117, 48, 48, hx (c / 16), hx (c % 16)] := by
  unfold shB at h
  simp only [Bool.or_eq_false_iff, beq_eq_false_iff_ne] at h
  obtain ⟨h1, h2, h3, h4, h5, h6, h7⟩ := h
  unfold esc
  rw [if_neg h1, if_neg h2, if_neg h3, if_neg h4, if_neg h5, if_neg h6, if_neg h7]

theorem bytes_yes (a : Option Addr) (n c : Nat) (v : Int) (w : World) (hn : n ≤ 1048576) : Calls Try.prog 15 #[.slice a n c, .int .u8 v] w fun e w' => e = .returned (.bool true) ∧ w' = w := by
  go_enter Try.func15, Try.ntmps15
  go_wp2
  go_ret
  exact ⟨rfl, rfl⟩
theorem bytes_no (a : Option Addr) (n c : Nat) (v : Int) (w : World) (hn : 1048576 < n) : Calls Try.prog 15 #[.slice a n c, .int .u8 v] w fun e w' => e = .returned (.bool false) ∧ w' = w := by
  go_enter Try.func15, Try.ntmps15
  go_wp2
  go_ret
  exact ⟨rfl, rfl⟩
end Go.Proofs.Qxb6604239a.shortE
