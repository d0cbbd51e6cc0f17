import Derived.Test.Qxb6604239aEsc
namespace Go.Proofs.Qxb6604239a.dec
open Go.ChangeShapes Go.WideShapes Go.ChangeAt Go.RowKit
open Go.Proofs.Qxb6604239a.esc
set_option linter.unusedVariables false

theorem ret2 {a b : Int} (h : a = b) : Ending.returned (.tuple #[.int .i64 a, .bool true]) = .returned (.tuple #[.int .i64 b, .bool true]) := by rw [h]
theorem hexval (d : Int) (d0 : 0 ≤ d) (d16 : d < 16) (w : World) : Calls Try.prog 26 #[.int .u8 (hx d)] w fun e w' => e = .returned (.tuple #[.int .i64 d, .bool true]) ∧ w' = w := by
  by_cases h : d < 10
  · have e : hx d = 48 + d := by unfold hx; rw [if_pos h]
    rw [e]; clear e
    have t1 : 48 ≤ 48 + d := by omega
    have t2 : 48 + d ≤ 57 := by omega
    go_enter Try.func26, Try.ntmps26
    go_wp2
    go_ret2
    exact ⟨ret2 (by omega), rfl⟩
  · have e : hx d = 87 + d := by unfold hx; rw [if_neg h]
    rw [e]; clear e
    have t1 : 48 ≤ 87 + d := by omega
    have t2 : decide (87 + d ≤ 57) = false := decide_eq_false (by omega)
    have t3 : 97 ≤ 87 + d := by omega
    have t4 : 87 + d ≤ 102 := by omega
    go_enter Try.func26, Try.ntmps26
    go_wp2
    go_ret2
    exact ⟨ret2 (by omega), rfl⟩

theorem dec_34 (b off n cp i : Nat) (w : World) (hx : n ≤ 2000000) (hi : i + 2 ≤ n) (h0 : w.cell? ⟨b, off + i, none⟩ = some (.int .u8 92)) (h1 : w.cell? ⟨b, off + (i + 1), none⟩ = some (.int .u8 34)) :
    Calls Try.prog 17 #[.slice (some ⟨b, off, none⟩) n cp, .int .i64 (i : Int)] w fun e w' => e = .returned (.tuple #[.int .i64 34, .int .i64 ((i : Int) + 2), .bool true]) ∧ w' = w := by
  have t1 : decide ((i : Int) < 0) = false := decide_eq_false (by omega)
  have t2 : decide ((n : Int) ≤ (i : Int) + 1) = false := decide_eq_false (by omega)
  have t3 : (i : Int) + 1 < (n : Int) := by omega
  go_enter Try.func17, Try.ntmps17
  go_wp2
  go_ret3
  exact ⟨rfl, rfl⟩

theorem dec_92 (b off n cp i : Nat) (w : World) (hx : n ≤ 2000000) (hi : i + 2 ≤ n) (h0 : w.cell? ⟨b, off + i, none⟩ = some (.int .u8 92)) (h1 : w.cell? ⟨b, off + (i + 1), none⟩ = some (.int .u8 92)) :
    Calls Try.prog 17 #[.slice (some ⟨b, off, none⟩) n cp, .int .i64 (i : Int)] w fun e w' => e = .returned (.tuple #[.int .i64 92, .int .i64 ((i : Int) + 2), .bool true]) ∧ w' = w := by
  have t1 : decide ((i : Int) < 0) = false := decide_eq_false (by omega)
  have t2 : decide ((n : Int) ≤ (i : Int) + 1) = false := decide_eq_false (by omega)
  have t3 : (i : Int) + 1 < (n : Int) := by omega
  go_enter Try.func17, Try.ntmps17
  go_wp2
  go_ret3
  exact ⟨rfl, rfl⟩

theorem dec_98 (b off n cp i : Nat) (w : World) (hx : n ≤ 2000000) (hi : i + 2 ≤ n) (h0 : w.cell? ⟨b, off + i, none⟩ = some (.int .u8 92)) (h1 : w.cell? ⟨b, off + (i + 1), none⟩ = some (.int .u8 98)) :
    Calls Try.prog 17 #[.slice (some ⟨b, off, none⟩) n cp, .int .i64 (i : Int)] w fun e w' => e = .returned (.tuple #[.int .i64 8, .int .i64 ((i : Int) + 2), .bool true]) ∧ w' = w := by
  have t1 : decide ((i : Int) < 0) = false := decide_eq_false (by omega)
  have t2 : decide ((n : Int) ≤ (i : Int) + 1) = false := decide_eq_false (by omega)
  have t3 : (i : Int) + 1 < (n : Int) := by omega
  go_enter Try.func17, Try.ntmps17
  go_wp2
  go_ret3
  exact ⟨rfl, rfl⟩

theorem dec_102 (b off n cp i : Nat) (w : World) (hx : n ≤ 2000000) (hi : i + 2 ≤ n) (h0 : w.cell? ⟨b, off + i, none⟩ = some (.int .u8 92)) (h1 : w.cell? ⟨b, off + (i + 1), none⟩ = some (.int .u8 102)) :
    Calls Try.prog 17 #[.slice (some ⟨b, off, none⟩) n cp, .int .i64 (i : Int)] w fun e w' => e = .returned (.tuple #[.int .i64 12, .int .i64 ((i : Int) + 2), .bool true]) ∧ w' = w := by
  have t1 : decide ((i : Int) < 0) = false := decide_eq_false (by omega)
  have t2 : decide ((n : Int) ≤ (i : Int) + 1) = false := decide_eq_false (by omega)
  have t3 : (i : Int) + 1 < (n : Int) := by omega
  go_enter Try.func17, Try.ntmps17
  go_wp2
  go_ret3
  exact ⟨rfl, rfl⟩

theorem dec_110 (b off n cp i : Nat) (w : World) (hx : n ≤ 2000000) (hi : i + 2 ≤ n) (h0 : w.cell? ⟨b, off + i, none⟩ = some (.int .u8 92)) (h1 : w.cell? ⟨b, off + (i + 1), none⟩ = some (.int .u8 110)) :
    Calls Try.prog 17 #[.slice (some ⟨b, off, none⟩) n cp, .int .i64 (i : Int)] w fun e w' => e = .returned (.tuple #[.int .i64 10, .int .i64 ((i : Int) + 2), .bool true]) ∧ w' = w := by
  have t1 : decide ((i : Int) < 0) = false := decide_eq_false (by omega)
  have t2 : decide ((n : Int) ≤ (i : Int) + 1) = false := decide_eq_false (by omega)
  have t3 : (i : Int) + 1 < (n : Int) := by omega
  go_enter Try.func17, Try.ntmps17
  go_wp2
  go_ret3
  exact ⟨rfl, rfl⟩

theorem dec_114 (b off n cp i : Nat) (w : World) (hx : n ≤ 2000000) (hi : i + 2 ≤ n) (h0 : w.cell? ⟨b, off + i, none⟩ = some (.int .u8 92)) (h1 : w.cell? ⟨b, off + (i + 1), none⟩ = some (.int .u8 114)) :
    Calls Try.prog 17 #[.slice (some ⟨b, off, none⟩) n cp, .int .i64 (i : Int)] w fun e w' => e = .returned (.tuple #[.int .i64 13, .int .i64 ((i : Int) + 2), .bool true]) ∧ w' = w := by
  have t1 : decide ((i : Int) < 0) = false := decide_eq_false (by omega)
  have t2 : decide ((n : Int) ≤ (i : Int) + 1) = false := decide_eq_false (by omega)
  have t3 : (i : Int) + 1 < (n : Int) := by omega
  go_enter Try.func17, Try.ntmps17
  go_wp2
  go_ret3
  exact ⟨rfl, rfl⟩

theorem dec_116 (b off n cp i : Nat) (w : World) (hx : n ≤ 2000000) (hi : i + 2 ≤ n) (h0 : w.cell? ⟨b, off + i, none⟩ = some (.int .u8 92)) (h1 : w.cell? ⟨b, off + (i + 1), none⟩ = some (.int .u8 116)) :
    Calls Try.prog 17 #[.slice (some ⟨b, off, none⟩) n cp, .int .i64 (i : Int)] w fun e w' => e = .returned (.tuple #[.int .i64 9, .int .i64 ((i : Int) + 2), .bool true]) ∧ w' = w := by
  have t1 : decide ((i : Int) < 0) = false := decide_eq_false (by omega)
  have t2 : decide ((n : Int) ≤ (i : Int) + 1) = false := decide_eq_false (by omega)
  have t3 : (i : Int) + 1 < (n : Int) := by omega
  go_enter Try.func17, Try.ntmps17
  go_wp2
  go_ret3
  exact ⟨rfl, rfl⟩

theorem val_int {a b : Int} (h : a = b) : Value.int .i64 a = Value.int .i64 b := by rw [h]
/-- The value gathered behind j hexadecimal digits of 00hh. -/
def vv (c : Int) (j : Nat) : Int := if j ≤ 2 then 0 else if j = 3 then c / 16 else c

set_option maxHeartbeats 1000000 in
theorem dec_u (b off n cp i : Nat) (c : Int) (w : World) (hx' : n ≤ 2000000) (hi : i + 6 ≤ n) (c0 : 0 ≤ c) (c255 : c ≤ 255) (h0 : w.cell? ⟨b, off + i, none⟩ = some (.int .u8 92)) (h1 : w.cell? ⟨b, off + (i + 1), none⟩ = some (.int .u8 117))
    (h2 : w.cell? ⟨b, off + (i + 2), none⟩ = some (.int .u8 (hx 0))) (h3 : w.cell? ⟨b, off + (i + 3), none⟩ = some (.int .u8 (hx 0)))
    (h4 : w.cell? ⟨b, off + (i + 4), none⟩ = some (.int .u8 (hx (c / 16)))) (h5 : w.cell? ⟨b, off + (i + 5), none⟩ = some (.int .u8 (hx (c % 16)))) :
    Calls Try.prog 17 #[.slice (some ⟨b, off, none⟩) n cp, .int .i64 (i : Int)] w fun e w' => e = .returned (.tuple #[.int .i64 c, .int .i64 ((i : Int) + 6), .bool true]) ∧ w' = w := by
  have t1 : decide ((i : Int) < 0) = false := decide_eq_false (by omega)
  have t2 : decide ((n : Int) ≤ (i : Int) + 1) = false := decide_eq_false (by omega)
  have t3 : (i : Int) + 1 < (n : Int) := by omega
  have t4 : decide ((n : Int) - (i : Int) < 6) = false := decide_eq_false (by omega)
  go_enter Try.func17, Try.ntmps17
  go_wp2
  go_loop [7, 8] (fun v k => ∃ j : Nat, j ≤ 4 ∧ k = .int .i64 ((i : Int) + 2 + (j : Int)) ∧ v = .int .i64 (vv c j)) (fun _ k => ((i : Int) + 6 - intOf k).toNat)
  case atStart => exact ⟨0, by omega, by go_num, rfl⟩
  case round =>
    obtain ⟨j, hj, rfl, rfl⟩ := hrel
    have q0 : 0 ≤ c / 16 := by omega
    have q1 : c / 16 ≤ 15 := by omega
    have q2 : 0 ≤ c % 16 := by omega
    have q3 : c % 16 ≤ 15 := by omega
    rcases (by omega : j = 0 ∨ j = 1 ∨ j = 2 ∨ j = 3 ∨ j = 4) with rfl | rfl | rfl | rfl | rfl
    · rw [show vv c 0 = 0 from rfl]
      go_wp2_with (first | (go_at_call 26; refine (hexval 0 (by omega) (by omega) _).mono ?_; rintro e w' ⟨rfl, rfl⟩))
      go_round
      case rel => exact ⟨1, by omega, by go_num, val_int (by rw [show vv c 1 = 0 from rfl] <;> omega)⟩
      case measure => simp [intOf]; try omega
    · rw [show vv c 1 = 0 from rfl]
      go_wp2_with (first | (go_at_call 26; refine (hexval 0 (by omega) (by omega) _).mono ?_; rintro e w' ⟨rfl, rfl⟩))
      go_round
      case rel => exact ⟨2, by omega, by go_num, val_int (by rw [show vv c 2 = 0 from rfl] <;> omega)⟩
      case measure => simp [intOf]; try omega
    · rw [show vv c 2 = 0 from rfl]
      go_wp2_with (first | (go_at_call 26; refine (hexval (c / 16) (by omega) (by omega) _).mono ?_; rintro e w' ⟨rfl, rfl⟩))
      go_round
      case rel => exact ⟨3, by omega, by go_num, val_int (by rw [show vv c 3 = c / 16 from rfl] <;> omega)⟩
      case measure => simp [intOf]; try omega
    · rw [show vv c 3 = c / 16 from rfl]
      go_wp2_with (first | (go_at_call 26; refine (hexval (c % 16) (by omega) (by omega) _).mono ?_; rintro e w' ⟨rfl, rfl⟩))
      go_round
      case rel => exact ⟨4, by omega, by go_num, val_int (by rw [show vv c 4 = c from rfl] <;> omega)⟩
      case measure => simp [intOf]; try omega
    · rw [show vv c 4 = c from rfl]
      have t5 : decide ((55296 : Int) ≤ c) = false := decide_eq_false (by omega)
      go_wp2
      go_ret3
      exact ⟨rfl, rfl⟩


theorem dec (b off n cp i : Nat) (F : Nat → Int) (c : Int) (w : World) (hx' : n ≤ 2000000) (c0 : 0 ≤ c) (c255 : c ≤ 255) (hc : ∀ j, j < n → w.cell? ⟨b, off + j, none⟩ = some (.int .u8 (F j)))
    (hi : i + (esc c).length ≤ n) (hF : ∀ j, j < (esc c).length → F (i + j) = (esc c).getD j 0) :
    Calls Try.prog 17 #[.slice (some ⟨b, off, none⟩) n cp, .int .i64 (i : Int)] w fun e w' => e = .returned (.tuple #[.int .i64 c, .int .i64 ((i : Int) + ((esc c).length : Int)), .bool true]) ∧ w' = w := by
  by_cases h34 : c = 34
  · subst h34
    have a0 : F i = 92 := hF 0 (show 0 < 2 by omega)
    have a1 : F (i + 1) = 34 := hF 1 (show 1 < 2 by omega)
    have hl : i + 2 ≤ n := hi
    exact dec_34 b off n cp i w hx' hl (by rw [hc i (by omega), a0]) (by rw [hc (i + 1) (by omega), a1])
  by_cases h92 : c = 92
  · subst h92
    have a0 : F i = 92 := hF 0 (show 0 < 2 by omega)
    have a1 : F (i + 1) = 92 := hF 1 (show 1 < 2 by omega)
    have hl : i + 2 ≤ n := hi
    exact dec_92 b off n cp i w hx' hl (by rw [hc i (by omega), a0]) (by rw [hc (i + 1) (by omega), a1])
  by_cases h8 : c = 8
  · subst h8
    have a0 : F i = 92 := hF 0 (show 0 < 2 by omega)
    have a1 : F (i + 1) = 98 := hF 1 (show 1 < 2 by omega)
    have hl : i + 2 ≤ n := hi
    exact dec_98 b off n cp i w hx' hl (by rw [hc i (by omega), a0]) (by rw [hc (i + 1) (by omega), a1])
  by_cases h9 : c = 9
  · subst h9
    have a0 : F i = 92 := hF 0 (show 0 < 2 by omega)
    have a1 : F (i + 1) = 116 := hF 1 (show 1 < 2 by omega)
    have hl : i + 2 ≤ n := hi
    exact dec_116 b off n cp i w hx' hl (by rw [hc i (by omega), a0]) (by rw [hc (i + 1) (by omega), a1])
  by_cases h10 : c = 10
  · subst h10
    have a0 : F i = 92 := hF 0 (show 0 < 2 by omega)
    have a1 : F (i + 1) = 110 := hF 1 (show 1 < 2 by omega)
    have hl : i + 2 ≤ n := hi
    exact dec_110 b off n cp i w hx' hl (by rw [hc i (by omega), a0]) (by rw [hc (i + 1) (by omega), a1])
  by_cases h12 : c = 12
  · subst h12
    have a0 : F i = 92 := hF 0 (show 0 < 2 by omega)
    have a1 : F (i + 1) = 102 := hF 1 (show 1 < 2 by omega)
    have hl : i + 2 ≤ n := hi
    exact dec_102 b off n cp i w hx' hl (by rw [hc i (by omega), a0]) (by rw [hc (i + 1) (by omega), a1])
  by_cases h13 : c = 13
  · subst h13
    have a0 : F i = 92 := hF 0 (show 0 < 2 by omega)
    have a1 : F (i + 1) = 114 := hF 1 (show 1 < 2 by omega)
    have hl : i + 2 ≤ n := hi
    exact dec_114 b off n cp i w hx' hl (by rw [hc i (by omega), a0]) (by rw [hc (i + 1) (by omega), a1])
  have e : esc c = [92, 117, 48, 48, hx (c / 16), hx (c % 16)] := by unfold esc; rw [if_neg h34, if_neg h92, if_neg h8, if_neg h9, if_neg h10, if_neg h12, if_neg h13]
  rw [e] at hi hF ⊢
  have hl : i + 6 ≤ n := hi
  have a0 : F i = 92 := hF 0 (show 0 < 6 by omega)
  have a1 : F (i + 1) = 117 := hF 1 (show 1 < 6 by omega)
  have a2 : F (i + 2) = hx 0 := hF 2 (show 2 < 6 by omega)
  have a3 : F (i + 3) = hx 0 := hF 3 (show 3 < 6 by omega)
  have a4 : F (i + 4) = hx (c / 16) := hF 4 (show 4 < 6 by omega)
  have a5 : F (i + 5) = hx (c % 16) := hF 5 (show 5 < 6 by omega)
  exact dec_u b off n cp i c w hx' hl c0 c255 (by rw [hc i (by omega), a0]) (by rw [hc (i + 1) (by omega), a1]) (by rw [hc (i + 2) (by omega), a2]) (by rw [hc (i + 3) (by omega), a3]) (by rw [hc (i + 4) (by omega), a4]) (by rw [hc (i + 5) (by omega), a5])
end Go.Proofs.Qxb6604239a.dec
