import Derived.Test.Qxb6604205aBase
import Derived.Test.Qxb6604205aPlain
namespace Go.Proofs.Qxb6604205a.short
open Go.ChangeShapes Go.WideShapes Go.ChangeAt Go.RowKit
open Go.Proofs.Qxb6604205a.plain

theorem isDigit (x : Int) (w : World) : Calls Try.prog 24 #[.int .u8 x] w fun e w' => e = .returned (.bool (dig x)) ∧ w' = w := by
  by_cases h : 48 ≤ x
  · have e : dig x = decide (x ≤ 57) := by unfold dig; simp [h]
    rw [e]; clear e
    go_enter Try.func24, Try.ntmps24
    go_wp2
    go_ret
    exact ⟨rfl, rfl⟩
  · have e : dig x = false := by unfold dig; simp [h]
    have h' : decide (48 ≤ x) = false := by simpa using h
    rw [e]; clear e
    go_enter Try.func24, Try.ntmps24
    go_wp2
    go_ret
    exact ⟨rfl, rfl⟩
theorem zzDigit (x : Int) (w : World) : Calls Try.prog 18 #[.int .u8 x] w fun e w' => e = .returned (.bool (dig x)) ∧ w' = w := by
  by_cases h : 48 ≤ x
  · have e : dig x = decide (x ≤ 57) := by unfold dig; simp [h]
    rw [e]; clear e
    go_enter Try.func18, Try.ntmps18
    go_wp2
    go_ret
    exact ⟨rfl, rfl⟩
  · have e : dig x = false := by unfold dig; simp [h]
    have h' : decide (48 ≤ x) = false := by simpa using h
    rw [e]; clear e
    go_enter Try.func18, Try.ntmps18
    go_wp2
    go_ret
    exact ⟨rfl, rfl⟩

/-- zzBytes_FnShortDecimalModel at a slice that is short enough, and at one that is not. -/
theorem bytes_yes (a : Option Addr) (n c : Nat) (w : World) (hn : n ≤ 1048576) : Calls Try.prog 6 #[.slice a n c] w fun e w' => e = .returned (.bool true) ∧ w' = w := by
  go_enter Try.func6, Try.ntmps6
  go_wp2
  go_ret
  exact ⟨rfl, rfl⟩
theorem bytes_no (a : Option Addr) (n c : Nat) (w : World) (hn : 1048576 < n) : Calls Try.prog 6 #[.slice a n c] w fun e w' => e = .returned (.bool false) ∧ w' = w := by
  go_enter Try.func6, Try.ntmps6
  go_wp2
  go_ret
  exact ⟨rfl, rfl⟩

theorem V_small (g : Nat → Int) (k n : Nat) (h : k < n) (hn : n ≤ 18) (hd : ∀ j, j < k → dig (g j) = true) : 0 ≤ V g k ∧ V g k ≤ 99999999999999999 := by
  have h1 := V_bd g k hd
  have h2 := pw_mono (show k ≤ 17 by omega)
  have h3 : pw 17 = 100000000000000000 := by decide
  omega

theorem V_small' (g : Nat → Int) (n : Nat) (hn : n ≤ 18) (hd : ∀ j, j < n → dig (g j) = true) : 0 ≤ V g n ∧ V g n ≤ 999999999999999999 := by
  have h1 := V_bd g n hd
  have h2 := pw_mono hn
  have h3 : pw 18 = 1000000000000000000 := by decide
  omega
/-- The bytes behind the first. -/
def sh (f : Nat → Int) (i : Nat) : Int := f (i + 1)

theorem dig_snoc {g : Nat → Int} {k : Nat} (h : ∀ j, j < k → dig (g j) = true) (h' : dig (g k) = true) : ∀ j, j < k + 1 → dig (g j) = true := by
  intro j hj
  by_cases e : j = k
  · rw [e]; exact h'
  · exact h j (by omega)

set_option maxHeartbeats 400000 in
theorem sd_plain (b off n c : Nat) (f : Nat → Int) (w : World) (h1 : 1 ≤ n) (hn : n ≤ 18) (hr : ∀ i, 0 ≤ f i ∧ f i ≤ 255) (hc : ∀ i, i < n → w.cell? ⟨b, off + i, none⟩ = some (.int .u8 (f i)))
    (hp : (f 0 == 43) = false) (hm : (f 0 == 45) = false) :
    Calls Try.prog 17 #[.slice (some ⟨b, off, none⟩) n c] w fun e w' => w' = w ∧
      ((e = .returned (.tuple #[.int .i64 (V f n), .bool true]) ∧ ∀ i, i < n → dig (f i) = true) ∨
       (e = .returned (.tuple #[.int .i64 0, .bool false]) ∧ ∃ i, i < n ∧ dig (f i) = false)) := by
  have hc0 : w.cell? ⟨b, off, none⟩ = some (.int .u8 (f 0)) := by simpa using hc 0 (by omega)
  go_enter Try.func17, Try.ntmps17
  go_wp2
  go_loop [5, 26] (fun v i => ∃ k : Nat, k ≤ n ∧ i = .int .i64 k ∧ v = .int .i64 (V f k) ∧ Hid (∀ j, j < k → dig (f j) = true)) (fun _ i => n - (intOf i).toNat)
  case atStart => exact ⟨0, Nat.zero_le _, rfl, rfl, fun j hj => absurd hj (Nat.not_lt_zero _)⟩
  case round =>
    obtain ⟨k, hk, rfl, rfl, hd⟩ := hrel
    by_cases hlt : k < n
    · obtain ⟨v0, v1⟩ := V_small f k n hlt hn hd.out
      have hck := hc k hlt
      have hrk := hr k
      cases hdk : dig (f k)
      · go_wp2_with (first | (go_at_call 24; refine (isDigit _ _).mono ?_; rintro e w' ⟨rfl, rfl⟩))
        go_ret2
        exact ⟨rfl, .inr ⟨rfl, k, hlt, hdk⟩⟩
      · have hb := dig_true hdk
        go_wp2_with (first | (go_at_call 24; refine (isDigit _ _).mono ?_; rintro e w' ⟨rfl, rfl⟩))
        go_round
        case rel => exact ⟨k + 1, hlt, by go_num, by rw [V_succ], dig_snoc hd.out hdk⟩
        case measure => simp [intOf]; omega
    · obtain rfl : k = n := by omega
      go_wp2
      go_ret2
      exact ⟨rfl, .inl ⟨rfl, hd.out⟩⟩

set_option maxHeartbeats 800000 in
theorem sd_plus (b off m c : Nat) (f : Nat → Int) (w : World) (hn : m ≤ 18) (hnc : m + 1 ≤ c) (hr : ∀ i, 0 ≤ f i ∧ f i ≤ 255) (hc : ∀ i, i < m + 1 → w.cell? ⟨b, off + i, none⟩ = some (.int .u8 (f i)))
    (hp : (f 0 == 43) = true) (hm : (f 0 == 45) = false) :
    Calls Try.prog 17 #[.slice (some ⟨b, off, none⟩) (m + 1) c] w fun e w' => w' = w ∧
      ((e = .returned (.tuple #[.int .i64 (V (sh f) m), .bool true]) ∧ ∀ i, i < m → dig (sh f i) = true) ∨
       (e = .returned (.tuple #[.int .i64 0, .bool false]) ∧ ∃ i, i < m ∧ dig (sh f i) = false)) := by
  have hc0 : w.cell? ⟨b, off, none⟩ = some (.int .u8 (f 0)) := by simpa using hc 0 (by omega)
  by_cases h1 : c = 1
  · obtain rfl : m = 0 := by omega
    subst h1
    go_enter Try.func17, Try.ntmps17
    go_wp2
    go_loop [5, 26] (fun v i => i = .int .i64 0 ∧ v = .int .i64 0) (fun _ _ => 0)
    case atStart => exact ⟨rfl, rfl⟩
    case round =>
      obtain ⟨rfl, rfl⟩ := hrel
      go_wp2
      go_ret2
      exact ⟨rfl, rfl⟩
  · have hcs : ∀ i, i < m → w.cell? ⟨b, off + 1 + i, none⟩ = some (.int .u8 (sh f i)) := fun i hi => by
      have := hc (i + 1) (by omega)
      rw [show off + 1 + i = off + (i + 1) by omega]
      exact this
    have hrs : ∀ i, 0 ≤ sh f i ∧ sh f i ≤ 255 := fun i => hr (i + 1)
    clear hc hr
    go_enter Try.func17, Try.ntmps17
    go_wp2
    go_loop [5, 26] (fun v i => ∃ k : Nat, k ≤ m ∧ i = .int .i64 k ∧ v = .int .i64 (V (sh f) k) ∧ Hid (∀ j, j < k → dig (sh f j) = true)) (fun _ i => m - (intOf i).toNat)
    case atStart => exact ⟨0, Nat.zero_le _, rfl, rfl, fun j hj => absurd hj (Nat.not_lt_zero _)⟩
    case round =>
      obtain ⟨k, hk, rfl, rfl, hd⟩ := hrel
      by_cases hlt : k < m
      · obtain ⟨v0, v1⟩ := V_small (sh f) k m hlt hn hd.out
        have hck := hcs k hlt
        have hrk := hrs k
        cases hdk : dig (sh f k)
        · go_wp2_with (first | (go_at_call 24; refine (isDigit _ _).mono ?_; rintro e w' ⟨rfl, rfl⟩))
          go_ret2
          exact ⟨rfl, .inr ⟨rfl, k, hlt, hdk⟩⟩
        · have hb := dig_true hdk
          go_wp2_with (first | (go_at_call 24; refine (isDigit _ _).mono ?_; rintro e w' ⟨rfl, rfl⟩))
          go_round
          case rel => exact ⟨k + 1, hlt, by go_num, by rw [V_succ], dig_snoc hd.out hdk⟩
          case measure => simp [intOf]; omega
      · obtain rfl : k = m := by omega
        go_wp2
        go_ret2
        exact ⟨rfl, .inl ⟨rfl, hd.out⟩⟩

set_option maxHeartbeats 800000 in
theorem sd_minus (b off m c : Nat) (f : Nat → Int) (w : World) (hn : m ≤ 18) (hnc : m + 1 ≤ c) (hr : ∀ i, 0 ≤ f i ∧ f i ≤ 255) (hc : ∀ i, i < m + 1 → w.cell? ⟨b, off + i, none⟩ = some (.int .u8 (f i)))
    (hp : (f 0 == 43) = false) (hm : (f 0 == 45) = true) :
    Calls Try.prog 17 #[.slice (some ⟨b, off, none⟩) (m + 1) c] w fun e w' => w' = w ∧
      ((e = .returned (.tuple #[.int .i64 (-(V (sh f) m)), .bool true]) ∧ ∀ i, i < m → dig (sh f i) = true) ∨
       (e = .returned (.tuple #[.int .i64 0, .bool false]) ∧ ∃ i, i < m ∧ dig (sh f i) = false)) := by
  have hc0 : w.cell? ⟨b, off, none⟩ = some (.int .u8 (f 0)) := by simpa using hc 0 (by omega)
  by_cases h1 : c = 1
  · obtain rfl : m = 0 := by omega
    subst h1
    go_enter Try.func17, Try.ntmps17
    go_wp2
    go_loop [5, 26] (fun v i => i = .int .i64 0 ∧ v = .int .i64 0) (fun _ _ => 0)
    case atStart => exact ⟨rfl, rfl⟩
    case round =>
      obtain ⟨rfl, rfl⟩ := hrel
      go_wp2
      go_ret2
      exact ⟨rfl, rfl⟩
  · have hcs : ∀ i, i < m → w.cell? ⟨b, off + 1 + i, none⟩ = some (.int .u8 (sh f i)) := fun i hi => by
      have := hc (i + 1) (by omega)
      rw [show off + 1 + i = off + (i + 1) by omega]
      exact this
    have hrs : ∀ i, 0 ≤ sh f i ∧ sh f i ≤ 255 := fun i => hr (i + 1)
    clear hc hr
    go_enter Try.func17, Try.ntmps17
    go_wp2
    go_loop [5, 26] (fun v i => ∃ k : Nat, k ≤ m ∧ i = .int .i64 k ∧ v = .int .i64 (V (sh f) k) ∧ Hid (∀ j, j < k → dig (sh f j) = true)) (fun _ i => m - (intOf i).toNat)
    case atStart => exact ⟨0, Nat.zero_le _, rfl, rfl, fun j hj => absurd hj (Nat.not_lt_zero _)⟩
    case round =>
      obtain ⟨k, hk, rfl, rfl, hd⟩ := hrel
      by_cases hlt : k < m
      · obtain ⟨v0, v1⟩ := V_small (sh f) k m hlt hn hd.out
        have hck := hcs k hlt
        have hrk := hrs k
        cases hdk : dig (sh f k)
        · go_wp2_with (first | (go_at_call 24; refine (isDigit _ _).mono ?_; rintro e w' ⟨rfl, rfl⟩))
          go_ret2
          exact ⟨rfl, .inr ⟨rfl, k, hlt, hdk⟩⟩
        · have hb := dig_true hdk
          go_wp2_with (first | (go_at_call 24; refine (isDigit _ _).mono ?_; rintro e w' ⟨rfl, rfl⟩))
          go_round
          case rel => exact ⟨k + 1, hlt, by go_num, by rw [V_succ], dig_snoc hd.out hdk⟩
          case measure => simp [intOf]; omega
      · obtain rfl : k = m := by omega
        obtain ⟨v0, v1⟩ := V_small' (sh f) k hn hd.out
        go_wp2
        go_ret2
        exact ⟨rfl, .inl ⟨rfl, hd.out⟩⟩

theorem sd_long (b off n c : Nat) (f : Nat → Int) (w : World) (hn : 18 < n) (hc : ∀ i, i < n → w.cell? ⟨b, off + i, none⟩ = some (.int .u8 (f i)))
    (hp : (f 0 == 43) = false) (hm : (f 0 == 45) = false) :
    Calls Try.prog 17 #[.slice (some ⟨b, off, none⟩) n c] w fun e w' => w' = w ∧ e = .returned (.tuple #[.int .i64 0, .bool false]) := by
  have hc0 : w.cell? ⟨b, off, none⟩ = some (.int .u8 (f 0)) := by simpa using hc 0 (by omega)
  go_enter Try.func17, Try.ntmps17
  go_wp2
  go_ret2
  exact ⟨rfl, rfl⟩
theorem sd_long_plus (b off m c : Nat) (f : Nat → Int) (w : World) (hn : 18 < m) (hnc : m + 1 ≤ c) (hc : ∀ i, i < m + 1 → w.cell? ⟨b, off + i, none⟩ = some (.int .u8 (f i)))
    (hp : (f 0 == 43) = true) :
    Calls Try.prog 17 #[.slice (some ⟨b, off, none⟩) (m + 1) c] w fun e w' => w' = w ∧ e = .returned (.tuple #[.int .i64 0, .bool false]) := by
  have hc0 : w.cell? ⟨b, off, none⟩ = some (.int .u8 (f 0)) := by simpa using hc 0 (by omega)
  have h1 : ¬ c = 1 := by omega
  go_enter Try.func17, Try.ntmps17
  go_wp2
  go_ret2
  exact ⟨rfl, rfl⟩
theorem sd_long_minus (b off m c : Nat) (f : Nat → Int) (w : World) (hn : 18 < m) (hnc : m + 1 ≤ c) (hc : ∀ i, i < m + 1 → w.cell? ⟨b, off + i, none⟩ = some (.int .u8 (f i)))
    (hp : (f 0 == 43) = false) (hm : (f 0 == 45) = true) :
    Calls Try.prog 17 #[.slice (some ⟨b, off, none⟩) (m + 1) c] w fun e w' => w' = w ∧ e = .returned (.tuple #[.int .i64 0, .bool false]) := by
  have hc0 : w.cell? ⟨b, off, none⟩ = some (.int .u8 (f 0)) := by simpa using hc 0 (by omega)
  have h1 : ¬ c = 1 := by omega
  go_enter Try.func17, Try.ntmps17
  go_wp2
  go_ret2
  exact ⟨rfl, rfl⟩
end Go.Proofs.Qxb6604205a.short
