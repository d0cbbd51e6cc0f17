import Derived.Test.Qxb6604205aMatch
namespace Go.Proofs.Qxb6604205a.matchT
open Go.ChangeShapes Go.WideShapes Go.ChangeAt Go.RowKit
open Go.Proofs.Qxb6604205a.plain Go.Proofs.Qxb6604205a.short Go.Proofs.Qxb6604205a.fixed Go.Proofs.Qxb6604205a.timeModel Go.Proofs.Qxb6604205a.partialT
set_option linter.unusedVariables false

def Done (f : Nat → Int) (n : Nat) (nw : Bool) (w : World) (e : Ending) (w' : World) : Prop :=
  (∃ q, w' = w.drewN q) ∧ ∃ x y : Int, e = .returned (.tuple #[.int .u8 x, .int .u8 y]) ∧ MRel f n nw x y
theorem Done.mk {f : Nat → Int} {n : Nat} {nw : Bool} {w w' : World} {x y : Int} (hw : ∃ q, w' = w.drewN q) (h : MRel f n nw x y) : Done f n nw w (.returned (.tuple #[.int .u8 x, .int .u8 y])) w' := ⟨hw, x, y, rfl, h⟩

theorem tmR_17 {m : Nat} (h : 0 < m) : tmR 0 m = 17 := by unfold tmR; rw [if_pos ⟨rfl, h⟩]
theorem tmR_0 : tmR 0 0 = 0 := rfl
theorem tmR_r {r : Int} {m : Nat} (h : r ≠ 0) : tmR r m = r := by unfold tmR; rw [if_neg (fun c => h c.1)]

set_option maxHeartbeats 1000000 in
theorem mdt_time (b off n : Nat) (f : Nat → Int) (v : Int) (w : World) (hx : n ≤ 1048576) (hr : ∀ i, 0 ≤ f i ∧ f i ≤ 255) (hc : ∀ i, i < n → w.cell? ⟨b, off + i, none⟩ = some (.int .u8 (f i)))
    (c1 : timeOnly f n = true) :
    Calls Try.prog 21 #[.slice (some ⟨b, off, none⟩) n n, .int .u8 v] w (Done f n (decide (2 ≤ v)) w) := by
  have HC : Hid (∀ i, i < n → w.cell? ⟨b, off + i, none⟩ = some (.int .u8 (f i))) := hc
  have HR : Hid (∀ i, 0 ≤ f i ∧ f i ≤ 255) := hr
  have H1 : Hid (timeOnly f n = true) := c1
  clear hr
  by_cases h2 : n ≤ 2
  · have hd : decide ((2 : Int) < (n : Int)) = false := decide_eq_false (by omega)
    clear c1 hc
    go_enter Try.func21, Try.ntmps21
    go_wp2_with fail
    refine (pt _ _ _ f _ _ hx HR.out HC.out).mono ?_
    rintro e w1 ⟨⟨q, rfl⟩, a, m, k, r, rfl, ht, hmk, ha⟩
    have HT : Hid (TSpec f n (decide (2 ≤ v)) k r) := ht
    have HM : Hid (n - k = m) := (show n - k = m by omega)
    clear ht hmk ha
    by_cases hr : r = 0
    · subst hr
      by_cases hm : m = 0
      · subst hm
        go_wp2
        go_ret2
        exact Done.mk ⟨_, rfl⟩ (by have := rel_time H1.out HT.out; rw [HM.out, tmR_0] at this; exact this)
      · have hm' : (0 : Int) < (m : Int) := by omega
        go_wp2
        go_ret2
        exact Done.mk ⟨_, rfl⟩ (by have := rel_time H1.out HT.out; rw [HM.out, tmR_17 (by omega)] at this; exact this)
    · have hr' : (r == 0) = false := by simpa using hr
      go_wp2
      go_ret2
      exact Done.mk ⟨_, rfl⟩ (by have := rel_time H1.out HT.out; rw [HM.out, tmR_r hr] at this; exact this)
  · have hd : (2 : Int) < (n : Int) := by omega
    have h58 : (f 2 == 58) = true := by unfold timeOnly at c1; simpa [h2] using c1
    have h58' : (f 2 != 58) = false := by simp [bne, h58]
    have hc2 := hc 2 (by omega)
    clear c1 hc
    go_enter Try.func21, Try.ntmps21
    go_wp2_with fail
    refine (pt _ _ _ f _ _ hx HR.out HC.out).mono ?_
    rintro e w1 ⟨⟨q, rfl⟩, a, m, k, r, rfl, ht, hmk, ha⟩
    have HT : Hid (TSpec f n (decide (2 ≤ v)) k r) := ht
    have HM : Hid (n - k = m) := (show n - k = m by omega)
    clear ht hmk ha
    by_cases hr : r = 0
    · subst hr
      by_cases hm : m = 0
      · subst hm
        go_wp2
        go_ret2
        exact Done.mk ⟨_, rfl⟩ (by have := rel_time H1.out HT.out; rw [HM.out, tmR_0] at this; exact this)
      · have hm' : (0 : Int) < (m : Int) := by omega
        go_wp2
        go_ret2
        exact Done.mk ⟨_, rfl⟩ (by have := rel_time H1.out HT.out; rw [HM.out, tmR_17 (by omega)] at this; exact this)
    · have hr' : (r == 0) = false := by simpa using hr
      go_wp2
      go_ret2
      exact Done.mk ⟨_, rfl⟩ (by have := rel_time H1.out HT.out; rw [HM.out, tmR_r hr] at this; exact this)

/-- What 'no time alone' says. -/
theorem not_time {f : Nat → Int} {n : Nat} (c1 : timeOnly f n = false) : 2 < n ∧ (f 2 == 58) = false := by
  unfold timeOnly at c1
  simp only [Bool.or_eq_false_iff, decide_eq_false_iff_not] at c1
  exact ⟨by omega, c1.2⟩

set_option maxHeartbeats 1000000 in
theorem mdt_bad (b off n : Nat) (f : Nat → Int) (v : Int) (w : World) (hx : n ≤ 1048576) (hr : ∀ i, 0 ≤ f i ∧ f i ≤ 255) (hc : ∀ i, i < n → w.cell? ⟨b, off + i, none⟩ = some (.int .u8 (f i)))
    (c1 : timeOnly f n = false) (c2 : preD f n = false) :
    Calls Try.prog 21 #[.slice (some ⟨b, off, none⟩) n n, .int .u8 v] w (Done f n (decide (2 ≤ v)) w) := by
  have HC : Hid (∀ i, i < n → w.cell? ⟨b, off + i, none⟩ = some (.int .u8 (f i))) := hc
  have HR : Hid (∀ i, 0 ≤ f i ∧ f i ≤ 255) := hr
  have HM : Hid (MRel f n (decide (2 ≤ v)) 0 9) := rel_bad c1 c2
  obtain ⟨h2, h58⟩ := not_time c1
  have hd : (2 : Int) < (n : Int) := by omega
  have h58' : (f 2 != 58) = true := by simp [bne, h58]
  have hc2 := hc 2 h2
  clear hr hc c1
  go_enter Try.func21, Try.ntmps21
  go_wp2_with fail
  refine (fd10 _ _ _ _ f _ hx HR.out HC.out).mono ?_
  rintro e w1 ⟨rfl, q, rfl⟩
  go_wp2
  go_ret2
  exact Done.mk ⟨_, rfl⟩ HM.out

set_option maxHeartbeats 1000000 in
theorem mdt_date (b off : Nat) (f : Nat → Int) (v : Int) (w : World) (hr : ∀ i, 0 ≤ f i ∧ f i ≤ 255) (hc : ∀ i, i < 10 → w.cell? ⟨b, off + i, none⟩ = some (.int .u8 (f i)))
    (c1 : timeOnly f 10 = false) (c2 : preD f 10 = true) :
    Calls Try.prog 21 #[.slice (some ⟨b, off, none⟩) 10 10, .int .u8 v] w (Done f 10 (decide (2 ≤ v)) w) := by
  have HC : Hid (∀ i, i < 10 → w.cell? ⟨b, off + i, none⟩ = some (.int .u8 (f i))) := hc
  have HR : Hid (∀ i, 0 ≤ f i ∧ f i ≤ 255) := hr
  have HM : Hid (MRel f 10 (decide (2 ≤ v)) 8 0) := rel_date c1 c2
  obtain ⟨h2, h58⟩ := not_time c1
  have h58' : (f 2 != 58) = true := by simp [bne, h58]
  have hc2 := hc 2 h2
  clear hr hc c1
  go_enter Try.func21, Try.ntmps21
  go_wp2_with fail
  refine (fd10 _ _ _ _ f _ (by omega) HR.out HC.out).mono ?_
  rintro e w1 ⟨rfl, q, rfl⟩
  go_wp2
  go_ret2
  exact Done.mk ⟨_, rfl⟩ HM.out

set_option maxHeartbeats 1000000 in
theorem mdt_sep (b off t : Nat) (f : Nat → Int) (v : Int) (w : World) (hx : t + 11 ≤ 1048576) (hr : ∀ i, 0 ≤ f i ∧ f i ≤ 255) (hc : ∀ i, i < t + 11 → w.cell? ⟨b, off + i, none⟩ = some (.int .u8 (f i)))
    (c1 : timeOnly f (t + 11) = false) (c2 : preD f (t + 11) = true) (c4 : sepOK (f 10) = false) :
    Calls Try.prog 21 #[.slice (some ⟨b, off, none⟩) (t + 11) (t + 11), .int .u8 v] w (Done f (t + 11) (decide (2 ≤ v)) w) := by
  have HC : Hid (∀ i, i < t + 11 → w.cell? ⟨b, off + i, none⟩ = some (.int .u8 (f i))) := hc
  have HR : Hid (∀ i, 0 ≤ f i ∧ f i ≤ 255) := hr
  have HM : Hid (MRel f (t + 11) (decide (2 ≤ v)) 0 10) := rel_sep c1 c2 (by omega) c4
  obtain ⟨h2, h58⟩ := not_time c1
  have h58' : (f 2 != 58) = true := by simp [bne, h58]
  have hc2 := hc 2 h2
  have hc10 := hc 10 (by omega)
  unfold sepOK at c4
  simp only [Bool.or_eq_false_iff] at c4
  obtain ⟨⟨s1, s2⟩, s3⟩ := c4
  have s1' : (f 10 != 84) = true := by simp [bne, s1]
  have s2' : (f 10 != 116) = true := by simp [bne, s2]
  have s3' : (f 10 != 32) = true := by simp [bne, s3]
  clear hr hc c1
  go_enter Try.func21, Try.ntmps21
  go_wp2_with fail
  refine (fd10 _ _ _ _ f _ (by omega) HR.out HC.out).mono ?_
  rintro e w1 ⟨rfl, q, rfl⟩
  go_wp2
  go_ret2
  exact Done.mk ⟨_, rfl⟩ HM.out
end Go.Proofs.Qxb6604205a.matchT
