import Derived.Test.Qxb6604239aCopy
namespace Go.Proofs.Qxb6604239a.trunc
open Go.ChangeShapes Go.WideShapes Go.ChangeAt Go.RowKit
open Go.Proofs.Qxb6604239a.esc Go.Proofs.Qxb6604239a.copy
set_option linter.unusedVariables false

/-- The outer list's cells: slices of known lengths. -/
def Outer (w : World) (a : Option Addr) (N : Nat) (A : Nat → Option Addr) (L C : Nat → Nat) : Prop :=
  N = 0 ∨ ∃ b off, a = some ⟨b, off, none⟩ ∧ ∀ j, j < N → w.cell? ⟨b, off + j, none⟩ = some (.slice (A j) (L j) (C j))

/-- Some bool comes back. -/
def SomeB (e : Ending) : Prop := ∃ t, e = .returned (.bool t)
/-- zzWellFormed's answer. -/
def WfAns (N m : Nat) (L : Nat → Nat) (e : Ending) : Prop := ∃ t : Bool, e = .returned (.bool t) ∧ (t = true ↔ ((∀ j, j < N → L j = 65536) ∧ m ≤ 65536))

set_option maxHeartbeats 1000000 in
theorem bytesT (a a' : Option Addr) (N c m c' : Nat) (n : Int) (A : Nat → Option Addr) (L C : Nat → Nat) (w : World) (hN : N ≤ maxLen) (hm : m ≤ maxLen) (hL : ∀ j, j < N → L j ≤ maxLen) (hO : Outer w a N A L C) :
    Calls Try.prog 7 #[.slice a N c, .slice a' m c', .int .i64 n] w fun e w' => SomeB e ∧ w' = w := by
  unfold maxLen at hN hm
  by_cases h1 : 1048576 < N
  · go_enter Try.func7, Try.ntmps7
    go_wp2
    go_ret
    exact ⟨⟨_, rfl⟩, rfl⟩
  have HO : Hid (Outer w a N A L C) := hO
  have HL : Hid (∀ j, j < N → L j ≤ maxLen) := hL
  clear hO hL
  go_enter Try.func7, Try.ntmps7
  go_wp2
  go_loop [7, 8] (fun z i => ∃ (k : Nat) (t : Int), k ≤ N ∧ i = .int .i64 k ∧ z = .int .i64 t ∧ 0 ≤ t ∧ t ≤ 1048576) (fun _ i => N - (intOf i).toNat)
  case atStart => exact ⟨0, _, Nat.zero_le _, rfl, rfl, by omega, by omega⟩
  case round =>
    obtain ⟨k, t, hk, rfl, rfl, t0, t1⟩ := hrel
    by_cases hlt : k < N
    · obtain ⟨b, off, rfl, hc⟩ := HO.out.resolve_left (by omega)
      have hck := hc k hlt
      have hLk := HL.out k hlt
      unfold maxLen at hLk
      have hi : (k : Int) < (N : Int) := by omega
      clear hc
      by_cases h2 : 1048576 < L k
      · go_wp2
        go_ret
        exact ⟨⟨_, rfl⟩, rfl⟩
      · by_cases h3 : 1048576 < t + (L k : Int)
        · go_wp2
          go_ret
          exact ⟨⟨_, rfl⟩, rfl⟩
        · go_wp2
          go_round
          case rel => exact ⟨k + 1, _, hlt, by go_num, rfl, by omega, by omega⟩
          case measure => simp [intOf]; omega
    · obtain rfl : k = N := by omega
      by_cases h2 : 1048576 < m
      · go_wp2
        go_ret
        exact ⟨⟨_, rfl⟩, rfl⟩
      · by_cases h3 : 1048576 < t + (m : Int)
        · go_wp2
          go_ret
          exact ⟨⟨_, rfl⟩, rfl⟩
        · go_wp2
          go_ret
          exact ⟨⟨_, rfl⟩, rfl⟩

set_option maxHeartbeats 1000000 in
theorem piecesB (a a' : Option Addr) (N c m c' : Nat) (A : Nat → Option Addr) (L C : Nat → Nat) (w : World) (hN : N ≤ maxLen) (hm : m ≤ maxLen) (hL : ∀ j, j < N → L j ≤ maxLen) (hO : Outer w a N A L C) :
    Calls Try.prog 8 #[.slice a N c, .slice a' m c'] w fun e w' => (∃ z : Int, e = .returned (.int .i64 z) ∧ (1048576 < z ∨ (N ≤ 43690 ∧ m ≤ 1048576))) ∧ w' = w := by
  unfold maxLen at hN hm
  by_cases h1 : 43690 < N
  · go_enter Try.func8, Try.ntmps8
    go_wp2
    go_ret
    exact ⟨⟨_, rfl, .inl (by omega)⟩, rfl⟩
  by_cases h2 : 1048576 < m
  · have d1 : decide ((43690 : Int) < (N : Int)) = false := decide_eq_false (by omega)
    go_enter Try.func8, Try.ntmps8
    go_wp2
    go_ret
    exact ⟨⟨_, rfl, .inl (by omega)⟩, rfl⟩
  have d1 : decide ((43690 : Int) < (N : Int)) = false := decide_eq_false (by omega)
  have d2 : decide ((1048576 : Int) < (m : Int)) = false := decide_eq_false (by omega)
  have HO : Hid (Outer w a N A L C) := hO
  have HL : Hid (∀ j, j < N → L j ≤ maxLen) := hL
  clear hO hL
  go_enter Try.func8, Try.ntmps8
  go_wp2
  go_loop [5, 6] (fun z i => ∃ (k : Nat) (t : Int), k ≤ N ∧ i = .int .i64 k ∧ z = .int .i64 t ∧ 0 ≤ t ∧ t ≤ 2200000) (fun _ i => N - (intOf i).toNat)
  case atStart => exact ⟨0, _, Nat.zero_le _, rfl, rfl, by omega, by omega⟩
  case round =>
    obtain ⟨k, t, hk, rfl, rfl, t0, t1⟩ := hrel
    by_cases hlt : k < N
    · obtain ⟨b, off, rfl, hc⟩ := HO.out.resolve_left (by omega)
      have hck := hc k hlt
      have hLk := HL.out k hlt
      unfold maxLen at hLk
      have hi : (k : Int) < (N : Int) := by omega
      clear hc
      by_cases h2 : 1048576 < L k
      · go_wp2
        go_ret
        exact ⟨⟨_, rfl, .inl (by omega)⟩, rfl⟩
      · by_cases h3 : 1048576 < t + (L k : Int)
        · go_wp2
          go_ret
          exact ⟨⟨_, rfl, .inl h3⟩, rfl⟩
        · go_wp2
          go_round
          case rel => exact ⟨k + 1, _, hlt, by go_num, rfl, by omega, by omega⟩
          case measure => simp [intOf]; omega
    · obtain rfl : k = N := by omega
      go_wp2
      go_ret
      exact ⟨⟨_, rfl, .inr ⟨by omega, by omega⟩⟩, rfl⟩

set_option maxHeartbeats 1000000 in
theorem wellF (a a' : Option Addr) (N c m c' : Nat) (A : Nat → Option Addr) (L C : Nat → Nat) (w : World) (hN : N ≤ maxLen) (hm : m ≤ maxLen) (hL : ∀ j, j < N → L j ≤ maxLen) (hO : Outer w a N A L C) :
    Calls Try.prog 9 #[.slice a N c, .slice a' m c'] w fun e w' => WfAns N m L e ∧ w' = w := by
  unfold maxLen at hN hm
  have HO : Hid (Outer w a N A L C) := hO
  have HL : Hid (∀ j, j < N → L j ≤ maxLen) := hL
  clear hO hL
  go_enter Try.func9, Try.ntmps9
  go_wp2
  go_loop [5] (fun i => ∃ k : Nat, k ≤ N ∧ i = .int .i64 k ∧ Hid (∀ j, j < k → L j = 65536)) (fun i => N - (intOf i).toNat)
  case atStart => exact ⟨0, Nat.zero_le _, rfl, fun j hj => absurd hj (Nat.not_lt_zero _)⟩
  case round =>
    obtain ⟨k, hk, rfl, hd⟩ := hrel
    by_cases hlt : k < N
    · obtain ⟨b, off, rfl, hc⟩ := HO.out.resolve_left (by omega)
      have hck := hc k hlt
      have hLk := HL.out k hlt
      unfold maxLen at hLk
      have hi : (k : Int) < (N : Int) := by omega
      clear hc
      by_cases h2 : L k = 65536
      · have H2 : Hid (L k = 65536) := h2
        have e2 : ((L k : Int) != 65536) = false := by simp; omega
        clear h2
        go_wp2
        go_round
        case rel =>
          refine ⟨k + 1, hlt, by go_num, fun j hj => ?_⟩
          by_cases e : j = k
          · rw [e]; exact H2.out
          · exact hd.out j (by omega)
        case measure => simp [intOf]; omega
      · have H2 : Hid (¬ L k = 65536) := h2
        have e2 : ((L k : Int) != 65536) = true := by simp; omega
        clear h2
        go_wp2
        go_ret
        exact ⟨⟨_, rfl, by simp; intro h; exact absurd (h k hlt) H2.out⟩, rfl⟩
    · obtain rfl : k = N := by omega
      go_wp2
      go_ret
      refine ⟨⟨decide ((m : Int) ≤ 65536), rfl, ?_⟩, rfl⟩
      constructor
      · intro h
        exact ⟨hd.out, by have := of_decide_eq_true h; omega⟩
      · intro h
        exact decide_eq_true (by omega)
end Go.Proofs.Qxb6604239a.trunc
