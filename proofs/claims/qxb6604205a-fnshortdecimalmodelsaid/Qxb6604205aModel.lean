import Derived.Test.Qxb6604205aShort
namespace Go.Proofs.Qxb6604205a.model
open Go.ChangeShapes Go.WideShapes Go.ChangeAt Go.RowKit
open Go.Proofs.Qxb6604205a.plain Go.Proofs.Qxb6604205a.short

theorem R_small (g : Nat → Int) (m k : Nat) (hk : k < m) (hm : m ≤ 18) (h : ∀ i, m - k ≤ i → i < m → dig (g i) = true) (d : Int) (hd : 48 ≤ d ∧ d ≤ 57) :
    (0 ≤ R g m k ∧ R g m k ≤ 99999999999999999) ∧ (1 ≤ pw k ∧ pw k ≤ 100000000000000000) ∧ (0 ≤ (d - 48) * pw k ∧ (d - 48) * pw k ≤ 900000000000000000) := by
  have h1 := R_bd g m k (by omega) h
  have h2 := pw_mono (show k ≤ 17 by omega)
  have h3 : pw 17 = 100000000000000000 := by decide
  have h4 := pw_pos k
  have e1 : 0 ≤ (d - 48) * pw k := Int.mul_nonneg (by omega) (by omega)
  have e2 : (d - 48) * pw k ≤ 9 * pw k := Int.mul_le_mul_of_nonneg_right (by omega) (by omega)
  omega
theorem R_small' (g : Nat → Int) (m : Nat) (hm : m ≤ 18) (h : ∀ i, i < m → dig (g i) = true) : 0 ≤ R g m m ∧ R g m m ≤ 999999999999999999 := by
  have h1 := R_bd g m m (Nat.le_refl _) (fun i _ => h i)
  have h2 := pw_mono hm
  have h3 : pw 18 = 1000000000000000000 := by decide
  omega
theorem R_step (g : Nat → Int) (m k t : Nat) (h : m - 1 - k = t) : R g m (k + 1) = R g m k + (g t - 48) * pw k := by rw [R_succ, h]
theorem dig_cons {g : Nat → Int} {m k t : Nat} (hk : t + k + 1 = m) (h : ∀ j, m - k ≤ j → j < m → dig (g j) = true) (h' : dig (g t) = true) : ∀ j, m - (k + 1) ≤ j → j < m → dig (g j) = true := by
  intro j h1 h2
  by_cases e : j = t
  · rw [e]; exact h'
  · exact h j (by omega) h2
theorem val_int {a b : Int} (h : a = b) : Value.int .i64 a = Value.int .i64 b := by rw [h]
theorem sh_at (f : Nat → Int) (t : Nat) (h : 1 ≤ t) : sh f (t - 1) = f t := by unfold sh; rw [show t - 1 + 1 = t by omega]

set_option maxHeartbeats 800000 in
theorem md_plain (b off m c : Nat) (f : Nat → Int) (w : World) (h0 : 1 ≤ m) (hn : m ≤ 18) (hr : ∀ i, 0 ≤ f i ∧ f i ≤ 255) (hc : ∀ i, i < m → w.cell? ⟨b, off + i, none⟩ = some (.int .u8 (f i)))
    (hp : (f 0 == 43) = false) (hm : (f 0 == 45) = false) :
    Calls Try.prog 9 #[.slice (some ⟨b, off, none⟩) m c] w fun e w' => w' = w ∧
      ((e = .returned (.tuple #[.int .i64 (R f m m), .bool true]) ∧ ∀ i, i < m → dig (f i) = true) ∨
       (e = .returned (.tuple #[.int .i64 0, .bool false]) ∧ ∃ i, i < m ∧ dig (f i) = false)) := by
  have hc0 : w.cell? ⟨b, off, none⟩ = some (.int .u8 (f 0)) := by simpa using hc 0 (by omega)
  go_enter Try.func9, Try.ntmps9
  go_wp2
  go_loop [6, 7, 8] (fun v p i => ∃ q k : Nat, 0 ≤ q ∧ Hid (q + k = m) ∧ i = .int .i64 ((q : Int) - 1) ∧ v = .int .i64 (R (f) m k) ∧ p = .int .i64 (pw k) ∧ Hid (∀ j, m - k ≤ j → j < m → dig (f j) = true)) (fun _ _ i => (intOf i + 1).toNat)
  case atStart => exact ⟨m, 0, by omega, rfl, by go_num, rfl, rfl, fun j h1 h2 => absurd h2 (by omega)⟩
  case round =>
    obtain ⟨q, k, hq0, hqk, rfl, rfl, rfl, hd⟩ := hrel
    have hql : q ≤ m := by have := hqk.out; omega
    by_cases hlt : 0 < q
    · obtain ⟨t, rfl⟩ : ∃ t, q = t + 1 := ⟨q - 1, by omega⟩
      rw [show (((t + 1 : Nat) : Int) - 1) = (t : Int) by omega]
      have hct := hc t (by omega)
      have hrt := hr t
      cases hdk : dig (f t)
      · go_wp2_with (first | (go_at_call 18; refine (zzDigit _ _).mono ?_; rintro e w' ⟨rfl, rfl⟩))
        go_ret2
        exact ⟨rfl, .inr ⟨rfl, t, by omega, hdk⟩⟩
      · have hb := dig_true hdk
        obtain ⟨⟨r0, r1⟩, ⟨p0, p1⟩, q0, q1⟩ := R_small (f) m k (by have := hqk.out; omega) hn hd.out (f t) hb
        go_wp2_with (first | (go_at_call 18; refine (zzDigit _ _).mono ?_; rintro e w' ⟨rfl, rfl⟩))
        go_round
        case rel => exact ⟨t, k + 1, by omega, (show _ = _ by have := hqk.out; omega), rfl, val_int (by rw [R_step (f) m k t (by have := hqk.out; omega)]), rfl, dig_cons (t := t) (by have := hqk.out; omega) hd.out hdk⟩
        case measure => simp [intOf]; try omega
    · obtain rfl : q = 0 := by omega
      obtain rfl : k = m := by have := hqk.out; omega
      have hall : ∀ j, j < k → dig (f j) = true := fun j hj => hd.out j (by omega) hj
      have HA : Hid (∀ j, j < k → dig (f j) = true) := hall
      obtain ⟨r0, r1⟩ := R_small' (f) k hn hall
      clear hall
      go_wp2
      go_ret2
      exact ⟨rfl, .inl ⟨rfl, HA.out⟩⟩

set_option maxHeartbeats 800000 in
theorem md_plus (b off m c : Nat) (f : Nat → Int) (w : World) (hn : m ≤ 18) (hr : ∀ i, 0 ≤ f i ∧ f i ≤ 255) (hc : ∀ i, i < (m + 1) → w.cell? ⟨b, off + i, none⟩ = some (.int .u8 (f i)))
    (hp : (f 0 == 43) = true) :
    Calls Try.prog 9 #[.slice (some ⟨b, off, none⟩) (m + 1) c] w fun e w' => w' = w ∧
      ((e = .returned (.tuple #[.int .i64 (R (sh f) m m), .bool true]) ∧ ∀ i, i < m → dig (sh f i) = true) ∨
       (e = .returned (.tuple #[.int .i64 0, .bool false]) ∧ ∃ i, i < m ∧ dig (sh f i) = false)) := by
  have hc0 : w.cell? ⟨b, off, none⟩ = some (.int .u8 (f 0)) := by simpa using hc 0 (by omega)
  go_enter Try.func9, Try.ntmps9
  go_wp2
  go_loop [6, 7, 8] (fun v p i => ∃ q k : Nat, 1 ≤ q ∧ Hid (q + k = (m + 1)) ∧ i = .int .i64 ((q : Int) - 1) ∧ v = .int .i64 (R (sh f) m k) ∧ p = .int .i64 (pw k) ∧ Hid (∀ j, m - k ≤ j → j < m → dig (sh f j) = true)) (fun _ _ i => (intOf i + 1).toNat)
  case atStart => exact ⟨(m + 1), 0, by omega, rfl, by go_num, rfl, rfl, fun j h1 h2 => absurd h2 (by omega)⟩
  case round =>
    obtain ⟨q, k, hq0, hqk, rfl, rfl, rfl, hd⟩ := hrel
    have hql : q ≤ (m + 1) := by have := hqk.out; omega
    by_cases hlt : 1 < q
    · obtain ⟨t, rfl⟩ : ∃ t, q = t + 1 := ⟨q - 1, by omega⟩
      rw [show (((t + 1 : Nat) : Int) - 1) = (t : Int) by omega]
      have hct := hc t (by omega)
      have hrt := hr t
      have gt : sh f (t - 1) = f t := (sh_at f t (by omega))
      have HG : Hid (sh f (t - 1) = f t) := gt
      clear gt
      cases hdk : dig (f t)
      · go_wp2_with (first | (go_at_call 18; refine (zzDigit _ _).mono ?_; rintro e w' ⟨rfl, rfl⟩))
        go_ret2
        exact ⟨rfl, .inr ⟨rfl, (t - 1), by omega, by rw [HG.out]; exact hdk⟩⟩
      · have hb := dig_true hdk
        obtain ⟨⟨r0, r1⟩, ⟨p0, p1⟩, q0, q1⟩ := R_small (sh f) m k (by have := hqk.out; omega) hn hd.out (f t) hb
        go_wp2_with (first | (go_at_call 18; refine (zzDigit _ _).mono ?_; rintro e w' ⟨rfl, rfl⟩))
        go_round
        case rel => exact ⟨t, k + 1, by omega, (show _ = _ by have := hqk.out; omega), rfl, val_int (by rw [R_step (sh f) m k (t - 1) (by have := hqk.out; omega), HG.out]), rfl, dig_cons (t := t - 1) (by have := hqk.out; omega) hd.out (by rw [HG.out]; exact hdk)⟩
        case measure => simp [intOf]; try omega
    · obtain rfl : q = 1 := by omega
      obtain rfl : k = m := by have := hqk.out; omega
      have hall : ∀ j, j < k → dig (sh f j) = true := fun j hj => hd.out j (by omega) hj
      have HA : Hid (∀ j, j < k → dig (sh f j) = true) := hall
      obtain ⟨r0, r1⟩ := R_small' (sh f) k hn hall
      clear hall
      go_wp2
      go_ret2
      exact ⟨rfl, .inl ⟨rfl, HA.out⟩⟩

set_option maxHeartbeats 800000 in
theorem md_minus (b off m c : Nat) (f : Nat → Int) (w : World) (hn : m ≤ 18) (hr : ∀ i, 0 ≤ f i ∧ f i ≤ 255) (hc : ∀ i, i < (m + 1) → w.cell? ⟨b, off + i, none⟩ = some (.int .u8 (f i)))
    (hp : (f 0 == 43) = false) (hm : (f 0 == 45) = true) :
    Calls Try.prog 9 #[.slice (some ⟨b, off, none⟩) (m + 1) c] w fun e w' => w' = w ∧
      ((e = .returned (.tuple #[.int .i64 (-(R (sh f) m m)), .bool true]) ∧ ∀ i, i < m → dig (sh f i) = true) ∨
       (e = .returned (.tuple #[.int .i64 0, .bool false]) ∧ ∃ i, i < m ∧ dig (sh f i) = false)) := by
  have hc0 : w.cell? ⟨b, off, none⟩ = some (.int .u8 (f 0)) := by simpa using hc 0 (by omega)
  go_enter Try.func9, Try.ntmps9
  go_wp2
  go_loop [6, 7, 8] (fun v p i => ∃ q k : Nat, 1 ≤ q ∧ Hid (q + k = (m + 1)) ∧ i = .int .i64 ((q : Int) - 1) ∧ v = .int .i64 (R (sh f) m k) ∧ p = .int .i64 (pw k) ∧ Hid (∀ j, m - k ≤ j → j < m → dig (sh f j) = true)) (fun _ _ i => (intOf i + 1).toNat)
  case atStart => exact ⟨(m + 1), 0, by omega, rfl, by go_num, rfl, rfl, fun j h1 h2 => absurd h2 (by omega)⟩
  case round =>
    obtain ⟨q, k, hq0, hqk, rfl, rfl, rfl, hd⟩ := hrel
    have hql : q ≤ (m + 1) := by have := hqk.out; omega
    by_cases hlt : 1 < q
    · obtain ⟨t, rfl⟩ : ∃ t, q = t + 1 := ⟨q - 1, by omega⟩
      rw [show (((t + 1 : Nat) : Int) - 1) = (t : Int) by omega]
      have hct := hc t (by omega)
      have hrt := hr t
      have gt : sh f (t - 1) = f t := (sh_at f t (by omega))
      have HG : Hid (sh f (t - 1) = f t) := gt
      clear gt
      cases hdk : dig (f t)
      · go_wp2_with (first | (go_at_call 18; refine (zzDigit _ _).mono ?_; rintro e w' ⟨rfl, rfl⟩))
        go_ret2
        exact ⟨rfl, .inr ⟨rfl, (t - 1), by omega, by rw [HG.out]; exact hdk⟩⟩
      · have hb := dig_true hdk
        obtain ⟨⟨r0, r1⟩, ⟨p0, p1⟩, q0, q1⟩ := R_small (sh f) m k (by have := hqk.out; omega) hn hd.out (f t) hb
        go_wp2_with (first | (go_at_call 18; refine (zzDigit _ _).mono ?_; rintro e w' ⟨rfl, rfl⟩))
        go_round
        case rel => exact ⟨t, k + 1, by omega, (show _ = _ by have := hqk.out; omega), rfl, val_int (by rw [R_step (sh f) m k (t - 1) (by have := hqk.out; omega), HG.out]), rfl, dig_cons (t := t - 1) (by have := hqk.out; omega) hd.out (by rw [HG.out]; exact hdk)⟩
        case measure => simp [intOf]; try omega
    · obtain rfl : q = 1 := by omega
      obtain rfl : k = m := by have := hqk.out; omega
      have hall : ∀ j, j < k → dig (sh f j) = true := fun j hj => hd.out j (by omega) hj
      have HA : Hid (∀ j, j < k → dig (sh f j) = true) := hall
      obtain ⟨r0, r1⟩ := R_small' (sh f) k hn hall
      clear hall
      go_wp2
      go_ret2
      exact ⟨rfl, .inl ⟨rfl, HA.out⟩⟩

theorem md_long (b off m c : Nat) (f : Nat → Int) (w : World) (hn : 18 < m) (hx : m ≤ 1048576) (hc : ∀ i, i < m → w.cell? ⟨b, off + i, none⟩ = some (.int .u8 (f i))) (hp : (f 0 == 43) = false) (hm : (f 0 == 45) = false) :
    Calls Try.prog 9 #[.slice (some ⟨b, off, none⟩) m c] w fun e w' => w' = w ∧ e = .returned (.tuple #[.int .i64 0, .bool false]) := by
  have hc0 : w.cell? ⟨b, off, none⟩ = some (.int .u8 (f 0)) := by simpa using hc 0 (by omega)
  go_enter Try.func9, Try.ntmps9
  go_wp2
  go_ret2
  exact ⟨rfl, rfl⟩

theorem md_long_plus (b off m c : Nat) (f : Nat → Int) (w : World) (hn : 18 < m) (hx : m ≤ 1048576) (hc : ∀ i, i < (m + 1) → w.cell? ⟨b, off + i, none⟩ = some (.int .u8 (f i))) (hp : (f 0 == 43) = true) :
    Calls Try.prog 9 #[.slice (some ⟨b, off, none⟩) (m + 1) c] w fun e w' => w' = w ∧ e = .returned (.tuple #[.int .i64 0, .bool false]) := by
  have hc0 : w.cell? ⟨b, off, none⟩ = some (.int .u8 (f 0)) := by simpa using hc 0 (by omega)
  go_enter Try.func9, Try.ntmps9
  go_wp2
  go_ret2
  exact ⟨rfl, rfl⟩

theorem md_long_minus (b off m c : Nat) (f : Nat → Int) (w : World) (hn : 18 < m) (hx : m ≤ 1048576) (hc : ∀ i, i < (m + 1) → w.cell? ⟨b, off + i, none⟩ = some (.int .u8 (f i))) (hp : (f 0 == 43) = false) (hm : (f 0 == 45) = true) :
    Calls Try.prog 9 #[.slice (some ⟨b, off, none⟩) (m + 1) c] w fun e w' => w' = w ∧ e = .returned (.tuple #[.int .i64 0, .bool false]) := by
  have hc0 : w.cell? ⟨b, off, none⟩ = some (.int .u8 (f 0)) := by simpa using hc 0 (by omega)
  go_enter Try.func9, Try.ntmps9
  go_wp2
  go_ret2
  exact ⟨rfl, rfl⟩
end Go.Proofs.Qxb6604205a.model
