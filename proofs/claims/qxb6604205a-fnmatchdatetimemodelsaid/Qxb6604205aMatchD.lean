import Derived.Test.Qxb6604205aMatchC
namespace Go.Proofs.Qxb6604205a.matchT
open Go.ChangeShapes Go.WideShapes Go.ChangeAt Go.RowKit
open Go.Proofs.Qxb6604205a.plain Go.Proofs.Qxb6604205a.short Go.Proofs.Qxb6604205a.fixed Go.Proofs.Qxb6604205a.timeModel Go.Proofs.Qxb6604205a.partialT
set_option linter.unusedVariables false

set_option maxHeartbeats 1000000 in
theorem mm_date (b off : Nat) (f : Nat → Int) (nw : Bool) (w : World) (hr : ∀ i, 0 ≤ f i ∧ f i ≤ 255) (hc : ∀ i, i < 10 → w.cell? ⟨b, off + i, none⟩ = some (.int .u8 (f i)))
    (c1 : timeOnly f 10 = false) (c2 : preD f 10 = true) :
    Calls Try.prog 16 #[.slice (some ⟨b, off, none⟩) 10 10, .bool nw] w (DoneM f 10 nw w) := by
  have HM : Hid (MRel f 10 nw 8 0) := rel_date c1 c2
  obtain ⟨h2, h58⟩ := not_time c1
  have HC : Hid (∀ i, i < 10 → w.cell? ⟨b, off + i, none⟩ = some (.int .u8 (f i))) := hc
  have HR : Hid (∀ i, 0 ≤ f i ∧ f i ≤ 255) := hr
  have HD : Hid (∀ i, i < 10 → okDB i (f i) = true) := (preD_true c2).2
  have hd : decide (((10 : Nat) : Int) ≤ 2) = false := decide_eq_false (by omega)
  have hc2 := hc 2 h2
  clear hr hc c1 c2
  go_enter Try.func16, Try.ntmps16
  go_wp2
  go_loop [8] (fun i => ∃ k : Nat, k ≤ 10 ∧ i = .int .i64 k) (fun i => 10 - (intOf i).toNat)
  case atStart => exact ⟨0, by omega, rfl⟩
  case round =>
    obtain ⟨k, hk, rfl⟩ := hrel
    by_cases h10 : k < 10
    · have hdn : decide (((10 : Nat) : Int) ≤ (k : Int)) = false := decide_eq_false (by omega)
      have hck := HC.out k (by omega)
      have hlt : (k : Int) < ((10 : Nat) : Int) := by omega
      have ho := HD.out k h10
      go_wp2_with (first | (go_at_call 22; refine (dateOK _ _ _).mono ?_; rintro e w' ⟨rfl, rfl⟩))
      go_round
      case rel => exact ⟨k + 1, by omega, by go_num⟩
      case measure => simp [intOf]; omega
    · obtain rfl : k = 10 := by omega
      go_wp2
      go_ret2
      exact DoneM.mk HM.out

set_option maxHeartbeats 1000000 in
theorem mm_sep (b off t : Nat) (f : Nat → Int) (nw : Bool) (w : World) (hx : t + 11 ≤ 1048576) (hr : ∀ i, 0 ≤ f i ∧ f i ≤ 255) (hc : ∀ i, i < t + 11 → w.cell? ⟨b, off + i, none⟩ = some (.int .u8 (f i)))
    (c1 : timeOnly f (t + 11) = false) (c2 : preD f (t + 11) = true) (c4 : sepOK (f 10) = false) :
    Calls Try.prog 16 #[.slice (some ⟨b, off, none⟩) (t + 11) (t + 11), .bool nw] w (DoneM f (t + 11) nw w) := by
  have HM : Hid (MRel f (t + 11) nw 0 10) := rel_sep c1 c2 (by omega) c4
  obtain ⟨h2, h58⟩ := not_time c1
  have HC : Hid (∀ i, i < t + 11 → w.cell? ⟨b, off + i, none⟩ = some (.int .u8 (f i))) := hc
  have HR : Hid (∀ i, 0 ≤ f i ∧ f i ≤ 255) := hr
  have HD : Hid (∀ i, i < 10 → okDB i (f i) = true) := (preD_true c2).2
  have hd : decide (((t + 11 : Nat) : Int) ≤ 2) = false := decide_eq_false (by omega)
  have hc2 := hc 2 h2
  have hc10 := hc 10 (by omega)
  unfold sepOK at c4
  simp only [Bool.or_eq_false_iff] at c4
  obtain ⟨⟨s1, s2⟩, s3⟩ := c4
  have s1' : (f 10 != 84) = true := by simp [bne, s1]
  have s2' : (f 10 != 116) = true := by simp [bne, s2]
  have s3' : (f 10 != 32) = true := by simp [bne, s3]
  clear hr hc c1 c2
  go_enter Try.func16, Try.ntmps16
  go_wp2
  go_loop [8] (fun i => ∃ k : Nat, k ≤ 10 ∧ i = .int .i64 k) (fun i => 10 - (intOf i).toNat)
  case atStart => exact ⟨0, by omega, rfl⟩
  case round =>
    obtain ⟨k, hk, rfl⟩ := hrel
    by_cases h10 : k < 10
    · have hdn : decide (((t + 11 : Nat) : Int) ≤ (k : Int)) = false := decide_eq_false (by omega)
      have hck := HC.out k (by omega)
      have hlt : (k : Int) < ((t + 11 : Nat) : Int) := by omega
      have ho := HD.out k h10
      go_wp2_with (first | (go_at_call 22; refine (dateOK _ _ _).mono ?_; rintro e w' ⟨rfl, rfl⟩))
      go_round
      case rel => exact ⟨k + 1, by omega, by go_num⟩
      case measure => simp [intOf]; omega
    · obtain rfl : k = 10 := by omega
      go_wp2
      go_ret2
      exact DoneM.mk HM.out

set_option maxHeartbeats 2000000 in
theorem mm_T (b off t : Nat) (f : Nat → Int) (nw : Bool) (w : World) (hx : t + 11 ≤ 1048576) (hr : ∀ i, 0 ≤ f i ∧ f i ≤ 255) (hc : ∀ i, i < t + 11 → w.cell? ⟨b, off + i, none⟩ = some (.int .u8 (f i)))
    (c1 : timeOnly f (t + 11) = false) (c2 : preD f (t + 11) = true) (s1 : (f 10 == 84) = true) (c4 : sepOK (f 10) = true) (ht0 : t ≠ 0) :
    Calls Try.prog 16 #[.slice (some ⟨b, off, none⟩) (t + 11) (t + 11), .bool nw] w (DoneM f (t + 11) nw w) := by
  have H1 : Hid (timeOnly f (t + 11) = false) := c1
  have H2 : Hid (preD f (t + 11) = true) := c2
  have H4 : Hid (sepOK (f 10) = true) := c4
  have HC11 : Hid (∀ i, i < t → w.cell? ⟨b, off + 11 + i, none⟩ = some (.int .u8 (up 11 f i))) := fun i hi => by
    have := hc (11 + i) (by omega)
    rw [show off + 11 + i = off + (11 + i) by omega]
    exact this
  have HR11 : Hid (∀ i, 0 ≤ up 11 f i ∧ up 11 f i ≤ 255) := fun i => hr (11 + i)
  obtain ⟨h2, h58⟩ := not_time c1
  have HC : Hid (∀ i, i < t + 11 → w.cell? ⟨b, off + i, none⟩ = some (.int .u8 (f i))) := hc
  have HR : Hid (∀ i, 0 ≤ f i ∧ f i ≤ 255) := hr
  have HD : Hid (∀ i, i < 10 → okDB i (f i) = true) := (preD_true c2).2
  have hd : decide (((t + 11 : Nat) : Int) ≤ 2) = false := decide_eq_false (by omega)
  have hc2 := hc 2 h2
  have hc10 := hc 10 (by omega)
  have s1' : (f 10 != 84) = false := by simp [bne, s1]
  clear hr hc c1 c2 c4
  go_enter Try.func16, Try.ntmps16
  go_wp2
  go_loop [8] (fun i => ∃ k : Nat, k ≤ 10 ∧ i = .int .i64 k) (fun i => 10 - (intOf i).toNat)
  case atStart => exact ⟨0, by omega, rfl⟩
  case round =>
    obtain ⟨k, hk, rfl⟩ := hrel
    by_cases h10 : k < 10
    · have hdn : decide (((t + 11 : Nat) : Int) ≤ (k : Int)) = false := decide_eq_false (by omega)
      have hck := HC.out k (by omega)
      have hlt : (k : Int) < ((t + 11 : Nat) : Int) := by omega
      have ho := HD.out k h10
      go_wp2_with (first | (go_at_call 22; refine (dateOK _ _ _).mono ?_; rintro e w' ⟨rfl, rfl⟩))
      go_round
      case rel => exact ⟨k + 1, by omega, by go_num⟩
      case measure => simp [intOf]; omega
    · obtain rfl : k = 10 := by omega
      go_wp2_with fail
      refine (tm _ _ _ _ (up 11 f) _ _ (by omega) HR11.out HC11.out).mono ?_
      rintro e w1 ⟨rfl, k, r, rfl, ht⟩
      have HT : Hid (TSpec (up 11 f) t nw k r) := ht
      have hkn := ht.le
      clear ht
      by_cases hr : r = 0
      · subst hr
        by_cases hk : k = t
        · go_wp2
          go_ret2
          exact DoneM.mk (rel_full' (m := 0) H1.out H2.out H4.out HT.out (by omega) kind_0)
        · have HCk : Hid (∀ i, i < t + 11 - (11 + k) → w1.cell? ⟨b, off + (11 + k) + i, none⟩ = some (.int .u8 (up k (up 11 f) i))) := fun i hi => by
            have := HC11.out (k + i) (by omega)
            rw [show off + (11 + k) + i = off + 11 + (k + i) by omega]
            exact this
          cases ho : offB (up k (up 11 f)) (t + 11 - (11 + k))
          · have HO : Hid (offB (up k (up 11 f)) (t + 11 - (11 + k)) = false) := ho
            go_wp2_with fail
            refine (isOff _ _ _ _ (up k (up 11 f)) _ (by omega) (by omega) HCk.out).mono ?_
            rintro e w' ⟨rfl, rfl⟩
            go_wp2
            go_ret2
            exact DoneM.mk (rel_full' H1.out H2.out H4.out HT.out (by omega) (kind_no (by omega) HO.out))
          · have HO : Hid (offB (up k (up 11 f)) (t + 11 - (11 + k)) = true) := ho
            go_wp2_with fail
            refine (isOff _ _ _ _ (up k (up 11 f)) _ (by omega) (by omega) HCk.out).mono ?_
            rintro e w' ⟨rfl, rfl⟩
            go_wp2
            go_ret2
            exact DoneM.mk (rel_full' H1.out H2.out H4.out HT.out (by omega) (kind_yes (by omega) HO.out))
      · have hr' : (r != 0) = true := by simpa using hr
        go_wp2
        go_ret2
        exact DoneM.mk (rel_full' (m := t - k) H1.out H2.out H4.out HT.out (by omega) (kind_r hr))

set_option maxHeartbeats 2000000 in
theorem mm_t (b off t : Nat) (f : Nat → Int) (nw : Bool) (w : World) (hx : t + 11 ≤ 1048576) (hr : ∀ i, 0 ≤ f i ∧ f i ≤ 255) (hc : ∀ i, i < t + 11 → w.cell? ⟨b, off + i, none⟩ = some (.int .u8 (f i)))
    (c1 : timeOnly f (t + 11) = false) (c2 : preD f (t + 11) = true) (s1 : (f 10 == 84) = false) (s2 : (f 10 == 116) = true) (c4 : sepOK (f 10) = true) (ht0 : t ≠ 0) :
    Calls Try.prog 16 #[.slice (some ⟨b, off, none⟩) (t + 11) (t + 11), .bool nw] w (DoneM f (t + 11) nw w) := by
  have H1 : Hid (timeOnly f (t + 11) = false) := c1
  have H2 : Hid (preD f (t + 11) = true) := c2
  have H4 : Hid (sepOK (f 10) = true) := c4
  have HC11 : Hid (∀ i, i < t → w.cell? ⟨b, off + 11 + i, none⟩ = some (.int .u8 (up 11 f i))) := fun i hi => by
    have := hc (11 + i) (by omega)
    rw [show off + 11 + i = off + (11 + i) by omega]
    exact this
  have HR11 : Hid (∀ i, 0 ≤ up 11 f i ∧ up 11 f i ≤ 255) := fun i => hr (11 + i)
  obtain ⟨h2, h58⟩ := not_time c1
  have HC : Hid (∀ i, i < t + 11 → w.cell? ⟨b, off + i, none⟩ = some (.int .u8 (f i))) := hc
  have HR : Hid (∀ i, 0 ≤ f i ∧ f i ≤ 255) := hr
  have HD : Hid (∀ i, i < 10 → okDB i (f i) = true) := (preD_true c2).2
  have hd : decide (((t + 11 : Nat) : Int) ≤ 2) = false := decide_eq_false (by omega)
  have hc2 := hc 2 h2
  have hc10 := hc 10 (by omega)
  have s1' : (f 10 != 84) = true := by simp [bne, s1]
  have s2' : (f 10 != 116) = false := by simp [bne, s2]
  clear hr hc c1 c2 c4
  go_enter Try.func16, Try.ntmps16
  go_wp2
  go_loop [8] (fun i => ∃ k : Nat, k ≤ 10 ∧ i = .int .i64 k) (fun i => 10 - (intOf i).toNat)
  case atStart => exact ⟨0, by omega, rfl⟩
  case round =>
    obtain ⟨k, hk, rfl⟩ := hrel
    by_cases h10 : k < 10
    · have hdn : decide (((t + 11 : Nat) : Int) ≤ (k : Int)) = false := decide_eq_false (by omega)
      have hck := HC.out k (by omega)
      have hlt : (k : Int) < ((t + 11 : Nat) : Int) := by omega
      have ho := HD.out k h10
      go_wp2_with (first | (go_at_call 22; refine (dateOK _ _ _).mono ?_; rintro e w' ⟨rfl, rfl⟩))
      go_round
      case rel => exact ⟨k + 1, by omega, by go_num⟩
      case measure => simp [intOf]; omega
    · obtain rfl : k = 10 := by omega
      go_wp2_with fail
      refine (tm _ _ _ _ (up 11 f) _ _ (by omega) HR11.out HC11.out).mono ?_
      rintro e w1 ⟨rfl, k, r, rfl, ht⟩
      have HT : Hid (TSpec (up 11 f) t nw k r) := ht
      have hkn := ht.le
      clear ht
      by_cases hr : r = 0
      · subst hr
        by_cases hk : k = t
        · go_wp2
          go_ret2
          exact DoneM.mk (rel_full' (m := 0) H1.out H2.out H4.out HT.out (by omega) kind_0)
        · have HCk : Hid (∀ i, i < t + 11 - (11 + k) → w1.cell? ⟨b, off + (11 + k) + i, none⟩ = some (.int .u8 (up k (up 11 f) i))) := fun i hi => by
            have := HC11.out (k + i) (by omega)
            rw [show off + (11 + k) + i = off + 11 + (k + i) by omega]
            exact this
          cases ho : offB (up k (up 11 f)) (t + 11 - (11 + k))
          · have HO : Hid (offB (up k (up 11 f)) (t + 11 - (11 + k)) = false) := ho
            go_wp2_with fail
            refine (isOff _ _ _ _ (up k (up 11 f)) _ (by omega) (by omega) HCk.out).mono ?_
            rintro e w' ⟨rfl, rfl⟩
            go_wp2
            go_ret2
            exact DoneM.mk (rel_full' H1.out H2.out H4.out HT.out (by omega) (kind_no (by omega) HO.out))
          · have HO : Hid (offB (up k (up 11 f)) (t + 11 - (11 + k)) = true) := ho
            go_wp2_with fail
            refine (isOff _ _ _ _ (up k (up 11 f)) _ (by omega) (by omega) HCk.out).mono ?_
            rintro e w' ⟨rfl, rfl⟩
            go_wp2
            go_ret2
            exact DoneM.mk (rel_full' H1.out H2.out H4.out HT.out (by omega) (kind_yes (by omega) HO.out))
      · have hr' : (r != 0) = true := by simpa using hr
        go_wp2
        go_ret2
        exact DoneM.mk (rel_full' (m := t - k) H1.out H2.out H4.out HT.out (by omega) (kind_r hr))

set_option maxHeartbeats 2000000 in
theorem mm_sp (b off t : Nat) (f : Nat → Int) (nw : Bool) (w : World) (hx : t + 11 ≤ 1048576) (hr : ∀ i, 0 ≤ f i ∧ f i ≤ 255) (hc : ∀ i, i < t + 11 → w.cell? ⟨b, off + i, none⟩ = some (.int .u8 (f i)))
    (c1 : timeOnly f (t + 11) = false) (c2 : preD f (t + 11) = true) (s1 : (f 10 == 84) = false) (s2 : (f 10 == 116) = false) (s3 : (f 10 == 32) = true) (c4 : sepOK (f 10) = true) (ht0 : t ≠ 0) :
    Calls Try.prog 16 #[.slice (some ⟨b, off, none⟩) (t + 11) (t + 11), .bool nw] w (DoneM f (t + 11) nw w) := by
  have H1 : Hid (timeOnly f (t + 11) = false) := c1
  have H2 : Hid (preD f (t + 11) = true) := c2
  have H4 : Hid (sepOK (f 10) = true) := c4
  have HC11 : Hid (∀ i, i < t → w.cell? ⟨b, off + 11 + i, none⟩ = some (.int .u8 (up 11 f i))) := fun i hi => by
    have := hc (11 + i) (by omega)
    rw [show off + 11 + i = off + (11 + i) by omega]
    exact this
  have HR11 : Hid (∀ i, 0 ≤ up 11 f i ∧ up 11 f i ≤ 255) := fun i => hr (11 + i)
  obtain ⟨h2, h58⟩ := not_time c1
  have HC : Hid (∀ i, i < t + 11 → w.cell? ⟨b, off + i, none⟩ = some (.int .u8 (f i))) := hc
  have HR : Hid (∀ i, 0 ≤ f i ∧ f i ≤ 255) := hr
  have HD : Hid (∀ i, i < 10 → okDB i (f i) = true) := (preD_true c2).2
  have hd : decide (((t + 11 : Nat) : Int) ≤ 2) = false := decide_eq_false (by omega)
  have hc2 := hc 2 h2
  have hc10 := hc 10 (by omega)
  have s1' : (f 10 != 84) = true := by simp [bne, s1]
  have s2' : (f 10 != 116) = true := by simp [bne, s2]
  have s3' : (f 10 != 32) = false := by simp [bne, s3]
  clear hr hc c1 c2 c4
  go_enter Try.func16, Try.ntmps16
  go_wp2
  go_loop [8] (fun i => ∃ k : Nat, k ≤ 10 ∧ i = .int .i64 k) (fun i => 10 - (intOf i).toNat)
  case atStart => exact ⟨0, by omega, rfl⟩
  case round =>
    obtain ⟨k, hk, rfl⟩ := hrel
    by_cases h10 : k < 10
    · have hdn : decide (((t + 11 : Nat) : Int) ≤ (k : Int)) = false := decide_eq_false (by omega)
      have hck := HC.out k (by omega)
      have hlt : (k : Int) < ((t + 11 : Nat) : Int) := by omega
      have ho := HD.out k h10
      go_wp2_with (first | (go_at_call 22; refine (dateOK _ _ _).mono ?_; rintro e w' ⟨rfl, rfl⟩))
      go_round
      case rel => exact ⟨k + 1, by omega, by go_num⟩
      case measure => simp [intOf]; omega
    · obtain rfl : k = 10 := by omega
      go_wp2_with fail
      refine (tm _ _ _ _ (up 11 f) _ _ (by omega) HR11.out HC11.out).mono ?_
      rintro e w1 ⟨rfl, k, r, rfl, ht⟩
      have HT : Hid (TSpec (up 11 f) t nw k r) := ht
      have hkn := ht.le
      clear ht
      by_cases hr : r = 0
      · subst hr
        by_cases hk : k = t
        · go_wp2
          go_ret2
          exact DoneM.mk (rel_full' (m := 0) H1.out H2.out H4.out HT.out (by omega) kind_0)
        · have HCk : Hid (∀ i, i < t + 11 - (11 + k) → w1.cell? ⟨b, off + (11 + k) + i, none⟩ = some (.int .u8 (up k (up 11 f) i))) := fun i hi => by
            have := HC11.out (k + i) (by omega)
            rw [show off + (11 + k) + i = off + 11 + (k + i) by omega]
            exact this
          cases ho : offB (up k (up 11 f)) (t + 11 - (11 + k))
          · have HO : Hid (offB (up k (up 11 f)) (t + 11 - (11 + k)) = false) := ho
            go_wp2_with fail
            refine (isOff _ _ _ _ (up k (up 11 f)) _ (by omega) (by omega) HCk.out).mono ?_
            rintro e w' ⟨rfl, rfl⟩
            go_wp2
            go_ret2
            exact DoneM.mk (rel_full' H1.out H2.out H4.out HT.out (by omega) (kind_no (by omega) HO.out))
          · have HO : Hid (offB (up k (up 11 f)) (t + 11 - (11 + k)) = true) := ho
            go_wp2_with fail
            refine (isOff _ _ _ _ (up k (up 11 f)) _ (by omega) (by omega) HCk.out).mono ?_
            rintro e w' ⟨rfl, rfl⟩
            go_wp2
            go_ret2
            exact DoneM.mk (rel_full' H1.out H2.out H4.out HT.out (by omega) (kind_yes (by omega) HO.out))
      · have hr' : (r != 0) = true := by simpa using hr
        go_wp2
        go_ret2
        exact DoneM.mk (rel_full' (m := t - k) H1.out H2.out H4.out HT.out (by omega) (kind_r hr))

theorem r0_ne (nw : Bool) : r0 nw ≠ 0 := by cases nw <;> decide
set_option maxHeartbeats 2000000 in
theorem mm_11 (b off : Nat) (f : Nat → Int) (nw : Bool) (w : World) (hr : ∀ i, 0 ≤ f i ∧ f i ≤ 255) (hc : ∀ i, i < 11 → w.cell? ⟨b, off + i, none⟩ = some (.int .u8 (f i)))
    (c1 : timeOnly f 11 = false) (c2 : preD f 11 = true) (c4 : sepOK (f 10) = true)
    (ss : (f 10 == 84) = true ∨ ((f 10 == 84) = false ∧ (f 10 == 116) = true) ∨ ((f 10 == 84) = false ∧ (f 10 == 116) = false ∧ (f 10 == 32) = true)) :
    Calls Try.prog 16 #[.slice (some ⟨b, off, none⟩) 11 11, .bool nw] w (DoneM f 11 nw w) := by
  have HM : Hid (MRel f 11 nw 0 (r0 nw)) := rel_full' (t := 0) (m := 0) (k := 0) (r := r0 nw) c1 c2 c4 (ts0 _ _) rfl (kind_r (r0_ne nw))
  obtain ⟨h2, h58⟩ := not_time c1
  have HC : Hid (∀ i, i < 11 → w.cell? ⟨b, off + i, none⟩ = some (.int .u8 (f i))) := hc
  have HR : Hid (∀ i, 0 ≤ f i ∧ f i ≤ 255) := hr
  have HD : Hid (∀ i, i < 10 → okDB i (f i) = true) := (preD_true c2).2
  have hd : decide (((11 : Nat) : Int) ≤ 2) = false := decide_eq_false (by omega)
  have hc2 := hc 2 h2
  have hc10 := hc 10 (by omega)
  clear hr hc c1 c2 c4
  rcases ss with s1 | ⟨s1, s2⟩ | ⟨s1, s2, s3⟩
  · have s1' : (f 10 != 84) = false := by simp [bne, s1]
    go_enter Try.func16, Try.ntmps16
    go_wp2
    go_loop [8] (fun i => ∃ k : Nat, k ≤ 10 ∧ i = .int .i64 k) (fun i => 10 - (intOf i).toNat)
    case atStart => exact ⟨0, by omega, rfl⟩
    case round =>
      obtain ⟨k, hk, rfl⟩ := hrel
      by_cases h10 : k < 10
      · have hdn : decide (((11 : Nat) : Int) ≤ (k : Int)) = false := decide_eq_false (by omega)
        have hck := HC.out k (by omega)
        have hlt : (k : Int) < ((11 : Nat) : Int) := by omega
        have ho := HD.out k h10
        go_wp2_with (first | (go_at_call 22; refine (dateOK _ _ _).mono ?_; rintro e w' ⟨rfl, rfl⟩))
        go_round
        case rel => exact ⟨k + 1, by omega, by go_num⟩
        case measure => simp [intOf]; omega
      · obtain rfl : k = 10 := by omega
        go_wp2_with fail
        refine (tm_empty _ _ _ _).mono ?_
        rintro e w1 ⟨rfl, rfl⟩
        have hr' : (r0 nw != 0) = true := by cases nw <;> rfl
        go_wp2
        go_ret2
        exact DoneM.mk HM.out
  · have s1' : (f 10 != 84) = true := by simp [bne, s1]
    have s2' : (f 10 != 116) = false := by simp [bne, s2]
    go_enter Try.func16, Try.ntmps16
    go_wp2
    go_loop [8] (fun i => ∃ k : Nat, k ≤ 10 ∧ i = .int .i64 k) (fun i => 10 - (intOf i).toNat)
    case atStart => exact ⟨0, by omega, rfl⟩
    case round =>
      obtain ⟨k, hk, rfl⟩ := hrel
      by_cases h10 : k < 10
      · have hdn : decide (((11 : Nat) : Int) ≤ (k : Int)) = false := decide_eq_false (by omega)
        have hck := HC.out k (by omega)
        have hlt : (k : Int) < ((11 : Nat) : Int) := by omega
        have ho := HD.out k h10
        go_wp2_with (first | (go_at_call 22; refine (dateOK _ _ _).mono ?_; rintro e w' ⟨rfl, rfl⟩))
        go_round
        case rel => exact ⟨k + 1, by omega, by go_num⟩
        case measure => simp [intOf]; omega
      · obtain rfl : k = 10 := by omega
        go_wp2_with fail
        refine (tm_empty _ _ _ _).mono ?_
        rintro e w1 ⟨rfl, rfl⟩
        have hr' : (r0 nw != 0) = true := by cases nw <;> rfl
        go_wp2
        go_ret2
        exact DoneM.mk HM.out
  · have s1' : (f 10 != 84) = true := by simp [bne, s1]
    have s2' : (f 10 != 116) = true := by simp [bne, s2]
    have s3' : (f 10 != 32) = false := by simp [bne, s3]
    go_enter Try.func16, Try.ntmps16
    go_wp2
    go_loop [8] (fun i => ∃ k : Nat, k ≤ 10 ∧ i = .int .i64 k) (fun i => 10 - (intOf i).toNat)
    case atStart => exact ⟨0, by omega, rfl⟩
    case round =>
      obtain ⟨k, hk, rfl⟩ := hrel
      by_cases h10 : k < 10
      · have hdn : decide (((11 : Nat) : Int) ≤ (k : Int)) = false := decide_eq_false (by omega)
        have hck := HC.out k (by omega)
        have hlt : (k : Int) < ((11 : Nat) : Int) := by omega
        have ho := HD.out k h10
        go_wp2_with (first | (go_at_call 22; refine (dateOK _ _ _).mono ?_; rintro e w' ⟨rfl, rfl⟩))
        go_round
        case rel => exact ⟨k + 1, by omega, by go_num⟩
        case measure => simp [intOf]; omega
      · obtain rfl : k = 10 := by omega
        go_wp2_with fail
        refine (tm_empty _ _ _ _).mono ?_
        rintro e w1 ⟨rfl, rfl⟩
        have hr' : (r0 nw != 0) = true := by cases nw <;> rfl
        go_wp2
        go_ret2
        exact DoneM.mk HM.out

theorem mm (b off n : Nat) (f : Nat → Int) (nw : Bool) (w : World) (hx : n ≤ 1048576) (hr : ∀ i, 0 ≤ f i ∧ f i ≤ 255) (hc : ∀ i, i < n → w.cell? ⟨b, off + i, none⟩ = some (.int .u8 (f i))) :
    Calls Try.prog 16 #[.slice (some ⟨b, off, none⟩) n n, .bool nw] w (DoneM f n nw w) := by
  cases c1 : timeOnly f n
  · cases c2 : preD f n
    · exact mm_bad b off n n f nw w hx hr hc c1 c2
    · have h10 := (preD_true c2).1
      by_cases h : n = 10
      · subst h
        exact mm_date b off f nw w hr hc c1 c2
      · obtain ⟨t, rfl⟩ : ∃ t, n = t + 11 := ⟨n - 11, by omega⟩
        cases c4 : sepOK (f 10)
        · exact mm_sep b off t f nw w hx hr hc c1 c2 c4
        · have c5 : ((f 10 == 84) || (f 10 == 116) || (f 10 == 32)) = true := c4
          have ss : (f 10 == 84) = true ∨ ((f 10 == 84) = false ∧ (f 10 == 116) = true) ∨ ((f 10 == 84) = false ∧ (f 10 == 116) = false ∧ (f 10 == 32) = true) := by
            cases s1 : (f 10 == 84)
            · cases s2 : (f 10 == 116)
              · rw [s1, s2] at c5
                exact .inr (.inr ⟨rfl, rfl, c5⟩)
              · exact .inr (.inl ⟨rfl, rfl⟩)
            · exact .inl rfl
          by_cases ht : t = 0
          · subst ht
            exact mm_11 b off f nw w hr hc c1 c2 c4 ss
          rcases ss with s1 | ⟨s1, s2⟩ | ⟨s1, s2, s3⟩
          · exact mm_T b off t f nw w hx hr hc c1 c2 s1 c4 ht
          · exact mm_t b off t f nw w hx hr hc c1 c2 s1 s2 c4 ht
          · exact mm_sp b off t f nw w hx hr hc c1 c2 s1 s2 s3 c4 ht
  · exact mm_time b off n n f nw w hx hr hc c1

theorem mm_nil (nw : Bool) (w : World) : Calls Try.prog 16 #[.slice none 0 0, .bool nw] w fun e w' => e = .returned (.tuple #[.int .u8 9, .int .u8 (r0 nw)]) ∧ w' = w := by
  have hr' : (r0 nw == 0) = false := by cases nw <;> rfl
  go_enter Try.func16, Try.ntmps16
  go_wp2_with fail
  refine (tm_empty _ _ _ _).mono ?_
  rintro e w1 ⟨rfl, rfl⟩
  go_wp2
  go_ret2
  exact ⟨rfl, rfl⟩

theorem zzmdt (b off n : Nat) (f : Nat → Int) (v : Int) (w : World) (hx : n ≤ 1048576) (hr : ∀ i, 0 ≤ f i ∧ f i ≤ 255) (hc : ∀ i, i < n → w.cell? ⟨b, off + i, none⟩ = some (.int .u8 (f i))) :
    Calls Try.prog 15 #[.slice (some ⟨b, off, none⟩) n n, .int .u8 v] w (Done f n (decide (2 ≤ v)) w) := by
  have HC : Hid (∀ i, i < n → w.cell? ⟨b, off + i, none⟩ = some (.int .u8 (f i))) := hc
  have HR : Hid (∀ i, 0 ≤ f i ∧ f i ≤ 255) := hr
  clear hc hr
  go_enter Try.func15, Try.ntmps15
  go_wp2_with fail
  refine (mdt _ _ _ f _ _ hx HR.out HC.out).mono ?_
  rintro e w1 ⟨⟨q, rfl⟩, x, y, rfl, hm⟩
  have HM : Hid (MRel f n (decide (2 ≤ v)) x y) := hm
  clear hm
  go_wp2
  go_ret2
  exact Done.mk ⟨_, rfl⟩ HM.out
theorem zzmdt_nil (v : Int) (w : World) : Calls Try.prog 15 #[.slice none 0 0, .int .u8 v] w fun e w' => e = .returned (.tuple #[.int .u8 9, .int .u8 (r0 (decide (2 ≤ v)))]) ∧ w' = w := by
  go_enter Try.func15, Try.ntmps15
  go_wp2_with fail
  refine (mdt_nil _ _).mono ?_
  rintro e w1 ⟨rfl, rfl⟩
  go_wp2
  go_ret2
  exact ⟨rfl, rfl⟩
theorem mbytes_yes (a : Option Addr) (n c : Nat) (v : Int) (w : World) (hn : n ≤ 1048576) : Calls Try.prog 14 #[.slice a n c, .int .u8 v] w fun e w' => e = .returned (.bool true) ∧ w' = w := by
  go_enter Try.func14, Try.ntmps14
  go_wp2
  go_ret
  exact ⟨rfl, rfl⟩
theorem mbytes_no (a : Option Addr) (n c : Nat) (v : Int) (w : World) (hn : 1048576 < n) : Calls Try.prog 14 #[.slice a n c, .int .u8 v] w fun e w' => e = .returned (.bool false) ∧ w' = w := by
  go_enter Try.func14, Try.ntmps14
  go_wp2
  go_ret
  exact ⟨rfl, rfl⟩
end Go.Proofs.Qxb6604205a.matchT
