import Derived.Test.Qxb6604205aPartial
namespace Go.Proofs.Qxb6604205a.partialT
open Go.ChangeShapes Go.WideShapes Go.ChangeAt Go.RowKit
open Go.Proofs.Qxb6604205a.plain Go.Proofs.Qxb6604205a.short Go.Proofs.Qxb6604205a.fixed Go.Proofs.Qxb6604205a.timeModel
set_option linter.unusedVariables false

theorem pt (b off n : Nat) (f : Nat → Int) (v : Int) (w : World) (hx : n ≤ 1048576) (hr : ∀ i, 0 ≤ f i ∧ f i ≤ 255) (hc : ∀ i, i < n → w.cell? ⟨b, off + i, none⟩ = some (.int .u8 (f i))) :
    Calls Try.prog 19 #[.slice (some ⟨b, off, none⟩) n n, .int .u8 v] w (Left b off n f (decide (2 ≤ v)) w) := by
  by_cases hv : 2 ≤ v
  · rw [decide_eq_true hv]
    cases h8 : pre f n 8
    · cases h5 : pre f n 5
      · exact pt_bad_new b off n f v w hx hr hc hv h8 h5
      · by_cases hn : n = 5
        · exact pt_short b off n f v w hx hr hc hv h5 (.inl hn)
        have h5n := (pre_true h5).1
        cases h58 : (f 5 == 58)
        · exact pt_short b off n f v w hx hr hc hv h5 (.inr ⟨by omega, h58⟩)
        · exact pt_bad_colon b off n f v w hx hr hc hv h8 h5 (by omega) h58
    · obtain ⟨p, rfl⟩ : ∃ p, n = p + 8 := ⟨n - 8, by have := (pre_true h8).1; omega⟩
      exact pt_full_new b off p f v w hx hr hc hv h8
  · rw [decide_eq_false hv]
    cases h8 : pre f n 8
    · exact pt_bad_old b off n f v w hx hr hc hv h8
    · obtain ⟨p, rfl⟩ : ∃ p, n = p + 8 := ⟨n - 8, by have := (pre_true h8).1; omega⟩
      exact pt_full_old b off p f v w hx hr hc hv h8

theorem scan0 (f : Nat → Int) : Scan f 0 0 := ⟨by omega, by omega, fun i hi => absurd hi (by omega), .inr (.inl rfl)⟩

/-- The reason at an empty slice. -/
def r0 (nw : Bool) : Int := if nw then 12 else 11
theorem ts0 (f : Nat → Int) (nw : Bool) : TSpec f 0 nw 0 (r0 nw) := by
  cases nw
  · exact ⟨0, scan0 f, by simp [r0]⟩
  · exact ⟨0, scan0 f, by simp [r0]⟩

theorem pt_empty (a : Option Addr) (c : Nat) (v : Int) (w : World) :
    Calls Try.prog 19 #[.slice a 0 c, .int .u8 v] w fun e w' => e = .returned (.tuple #[.slice a 0 c, .int .u8 (r0 (decide (2 ≤ v)))]) ∧ w' = w := by
  by_cases hv : 2 ≤ v
  · rw [decide_eq_true hv]
    go_enter Try.func19, Try.ntmps19
    go_wp2_with fail
    refine (optSec _ _).mono ?_
    rintro e w' ⟨rfl, rfl⟩
    go_wp2_with fail
    refine (fd_short _ _ _ _ _ (show 0 < 5 by omega)).mono ?_
    rintro e w' ⟨rfl, rfl⟩
    go_wp2_with fail
    refine (fd_short _ _ _ _ _ (show 0 < 8 by omega)).mono ?_
    rintro e w' ⟨rfl, rfl⟩
    go_wp2_with (first | (go_at_call 25; refine (optSec _ _).mono ?_; rintro e w' ⟨rfl, rfl⟩))
    go_ret2
    exact ⟨rfl, rfl⟩
  · rw [decide_eq_false hv]
    have hv' : decide (2 ≤ v) = false := decide_eq_false hv
    clear hv
    go_enter Try.func19, Try.ntmps19
    go_wp2_with fail
    refine (optSec _ _).mono ?_
    rintro e w' ⟨rfl, rfl⟩
    go_wp2_with fail
    refine (fd_short _ _ _ _ _ (show 0 < 8 by omega)).mono ?_
    rintro e w' ⟨rfl, rfl⟩
    go_wp2_with (first | (go_at_call 25; refine (optSec _ _).mono ?_; rintro e w' ⟨rfl, rfl⟩))
    go_ret2
    exact ⟨rfl, rfl⟩

theorem tm_empty (a : Option Addr) (c : Nat) (nw : Bool) (w : World) :
    Calls Try.prog 12 #[.slice a 0 c, .bool nw] w fun e w' => e = .returned (.tuple #[.int .i64 0, .int .u8 (r0 nw)]) ∧ w' = w := by
  cases nw
  all_goals
    go_enter Try.func12, Try.ntmps12
    go_wp2
    go_loop [6] (fun i => i = .int .i64 0) (fun _ => 0)
    case atStart => exact rfl
    case round =>
      subst hrel
      go_wp2
      go_ret2
      exact ⟨rfl, rfl⟩

theorem zzpt (b off n : Nat) (f : Nat → Int) (v : Int) (w : World) (hx : n ≤ 1048576) (hr : ∀ i, 0 ≤ f i ∧ f i ≤ 255) (hc : ∀ i, i < n → w.cell? ⟨b, off + i, none⟩ = some (.int .u8 (f i))) :
    Calls Try.prog 11 #[.slice (some ⟨b, off, none⟩) n n, .int .u8 v] w (Left b off n f (decide (2 ≤ v)) w) := by
  have HC : Hid (∀ i, i < n → w.cell? ⟨b, off + i, none⟩ = some (.int .u8 (f i))) := hc
  have HR : Hid (∀ i, 0 ≤ f i ∧ f i ≤ 255) := hr
  clear hc hr
  go_enter Try.func11, Try.ntmps11
  go_wp2_with fail
  refine (pt _ _ _ f _ _ hx HR.out HC.out).mono ?_
  rintro e w1 ⟨hw, a, m, k, r, rfl, ht, hmk, ha⟩
  have HW : Hid (∃ q, w1 = w.drewN q) := hw
  have HT : Hid (TSpec f n (decide (2 ≤ v)) k r) := ht
  have HM : Hid (m + k = n) := hmk
  have HA : Hid (0 < m → a = some ⟨b, off + k, none⟩) := ha
  clear hw ht hmk ha
  go_wp2
  go_ret2
  exact ⟨HW.out, a, m, k, r, rfl, HT.out, HM.out, HA.out⟩
theorem zzpt_empty (a : Option Addr) (c : Nat) (v : Int) (w : World) :
    Calls Try.prog 11 #[.slice a 0 c, .int .u8 v] w fun e w' => e = .returned (.tuple #[.slice a 0 c, .int .u8 (r0 (decide (2 ≤ v)))]) ∧ w' = w := by
  go_enter Try.func11, Try.ntmps11
  go_wp2_with fail
  refine (pt_empty _ _ _ _).mono ?_
  rintro e w1 ⟨rfl, rfl⟩
  go_wp2
  go_ret2
  exact ⟨rfl, rfl⟩

theorem same_empty (a a' : Option Addr) (c c' : Nat) (w : World) :
    Calls Try.prog 13 #[.slice a 0 c, .slice a' 0 c'] w fun e w' => e = .returned (.bool true) ∧ w' = w := by
  go_enter Try.func13, Try.ntmps13
  go_wp2
  go_loop [5] (fun i => i = .int .i64 0) (fun _ => 0)
  case atStart => exact rfl
  case round =>
    subst hrel
    go_wp2
    go_ret
    exact ⟨rfl, rfl⟩

set_option maxHeartbeats 400000 in
theorem same_yes (b off n c c' : Nat) (f : Nat → Int) (w : World) (hx : n ≤ 1048576) (hc : ∀ i, i < n → w.cell? ⟨b, off + i, none⟩ = some (.int .u8 (f i))) :
    Calls Try.prog 13 #[.slice (some ⟨b, off, none⟩) n c, .slice (some ⟨b, off, none⟩) n c'] w fun e w' => e = .returned (.bool true) ∧ ∃ q, w' = w.drewN q := by
  go_enter Try.func13, Try.ntmps13
  go_wp2
  go_loopw [5] (fun i wr => ∃ k : Nat, k ≤ n ∧ i = .int .i64 k ∧ Hid (∃ q, wr = w.drewN q)) (fun i _ => n - (intOf i).toNat)
  case atStart => exact ⟨0, Nat.zero_le _, rfl, ⟨0, rfl⟩⟩
  case round =>
    obtain ⟨k, hk, rfl, hw⟩ := hrel
    by_cases hlt : k < n
    · have hck := drewN_cell hw.out (hc k hlt)
      clear hc
      have hi : (k : Int) < (n : Int) := by omega
      go_wp2
      go_quiet (fail)
      go_wp2
      go_roundw
      case rel => exact ⟨k + 1, hlt, by go_num, drewN_more hw.out _⟩
      case measure => simp [intOf]; omega
    · obtain rfl : k = n := by omega
      go_wp2
      go_ret
      exact ⟨rfl, hw.out⟩

theorem bytes_yes (a : Option Addr) (n c : Nat) (v : Int) (w : World) (hn : n ≤ 1048576) : Calls Try.prog 10 #[.slice a n c, .int .u8 v] w fun e w' => e = .returned (.bool true) ∧ w' = w := by
  go_enter Try.func10, Try.ntmps10
  go_wp2
  go_ret
  exact ⟨rfl, rfl⟩
theorem bytes_no (a : Option Addr) (n c : Nat) (v : Int) (w : World) (hn : 1048576 < n) : Calls Try.prog 10 #[.slice a n c, .int .u8 v] w fun e w' => e = .returned (.bool false) ∧ w' = w := by
  go_enter Try.func10, Try.ntmps10
  go_wp2
  go_ret
  exact ⟨rfl, rfl⟩
end Go.Proofs.Qxb6604205a.partialT
