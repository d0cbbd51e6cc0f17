import Derived.Test.Qxb6604205aMatchA
namespace Go.Proofs.Qxb6604205a.matchT
open Go.ChangeShapes Go.WideShapes Go.ChangeAt Go.RowKit
open Go.Proofs.Qxb6604205a.plain Go.Proofs.Qxb6604205a.short Go.Proofs.Qxb6604205a.fixed Go.Proofs.Qxb6604205a.timeModel Go.Proofs.Qxb6604205a.partialT
set_option linter.unusedVariables false

theorem kind_r {h : Nat → Int} {m : Nat} {r : Int} (hr : r ≠ 0) : kindOf h m r = 0 ∧ whyOf h m r = r := by unfold kindOf whyOf; rw [if_pos hr, if_pos hr]; exact ⟨rfl, rfl⟩
theorem kind_0 {h : Nat → Int} : kindOf h 0 0 = 7 ∧ whyOf h 0 0 = 0 := by unfold kindOf whyOf; simp
theorem kind_yes {h : Nat → Int} {m : Nat} (hm : m ≠ 0) (ho : offB h m = true) : kindOf h m 0 = 6 ∧ whyOf h m 0 = 0 := by unfold kindOf whyOf; simp [hm, ho]
theorem kind_no {h : Nat → Int} {m : Nat} (hm : m ≠ 0) (ho : offB h m = false) : kindOf h m 0 = 0 ∧ whyOf h m 0 = 16 := by unfold kindOf whyOf; simp [hm, ho]
theorem rel_full' {f : Nat → Int} {t m k : Nat} {nw : Bool} {r x y : Int} (c1 : timeOnly f (t + 11) = false) (c2 : preD f (t + 11) = true) (c4 : sepOK (f 10) = true) (ht : TSpec (up 11 f) t nw k r) (hm : m + k = t)
    (hk : kindOf (up k (up 11 f)) m r = x ∧ whyOf (up k (up 11 f)) m r = y) : MRel f (t + 11) nw x y := by
  have := rel_full (n := t + 11) (k := k) (r := r) c1 c2 (by omega) c4 (by simpa using ht)
  rw [show t + 11 - 11 - k = m by omega, hk.1, hk.2] at this
  exact this
theorem off_1 {h : Nat → Int} : offB h 1 = (h 0 == 90 || h 0 == 122) := rfl
theorem off_6 {h : Nat → Int} : offB h 6 = ((h 0 == 43 || h 0 == 45) && pre (up 1 h) 5 5) := rfl
theorem off_no {h : Nat → Int} {m : Nat} (h1 : m ≠ 1) (h6 : m ≠ 6) : offB h m = false := by unfold offB; rw [if_neg h1, if_neg h6]

set_option maxHeartbeats 4000000 in
theorem mdt_T (b off t : Nat) (f : Nat → Int) (v : Int) (w : World) (hx : t + 11 ≤ 1048576) (hr : ∀ i, 0 ≤ f i ∧ f i ≤ 255) (hc : ∀ i, i < t + 11 → w.cell? ⟨b, off + i, none⟩ = some (.int .u8 (f i)))
    (c1 : timeOnly f (t + 11) = false) (c2 : preD f (t + 11) = true) (s1 : (f 10 == 84) = true) (c4 : sepOK (f 10) = true) (ht0 : t ≠ 0) :
    Calls Try.prog 21 #[.slice (some ⟨b, off, none⟩) (t + 11) (t + 11), .int .u8 v] w (Done f (t + 11) (decide (2 ≤ v)) w) := by
  have HC : Hid (∀ i, i < t + 11 → w.cell? ⟨b, off + i, none⟩ = some (.int .u8 (f i))) := hc
  have HR : Hid (∀ i, 0 ≤ f i ∧ f i ≤ 255) := hr
  have H1 : Hid (timeOnly f (t + 11) = false) := c1
  have H2 : Hid (preD f (t + 11) = true) := c2
  have H4 : Hid (sepOK (f 10) = true) := c4
  have HC11 : Hid (∀ i, i < t → w.cell? ⟨b, off + 10 + 1 + i, none⟩ = some (.int .u8 (up 11 f i))) := fun i hi => by
    have := hc (11 + i) (by omega)
    rw [show off + 10 + 1 + i = off + (11 + i) by omega]
    exact this
  have HR11 : Hid (∀ i, 0 ≤ up 11 f i ∧ up 11 f i ≤ 255) := fun i => hr (11 + i)
  obtain ⟨h2, h58⟩ := not_time c1
  have h58' : (f 2 != 58) = true := by simp [bne, h58]
  have hc2 := hc 2 h2
  have hc10 := hc 10 (by omega)
  have ht1 : ¬ t + 1 = 1 := by omega
  have s1' : (f 10 != 84) = false := by simp [bne, s1]
  clear hr hc c1 c4
  go_enter Try.func21, Try.ntmps21
  go_wp2_with fail
  refine (fd10 _ _ _ _ f _ (by omega) HR.out HC.out).mono ?_
  rintro e w1 ⟨rfl, q, rfl⟩
  go_wp2_with fail
  refine (pt _ _ _ (up 11 f) _ _ (by omega) HR11.out (cells_drewN HC11.out _)).mono ?_
  rintro e w1 ⟨⟨q1, rfl⟩, a, m, k, r, rfl, ht, hmk, ha⟩
  have HT : Hid (TSpec (up 11 f) t (decide (2 ≤ v)) k r) := ht
  have HM : Hid (m + k = t) := hmk
  have HA : Hid (0 < m → a = some ⟨b, off + 10 + 1 + k, none⟩) := ha
  have hmt : m ≤ t := by omega
  clear ht hmk ha c2 hc2 hc10
  by_cases hr : r = 0
  · subst hr
    by_cases hm : m = 0
    · subst hm
      go_wp2
      go_ret2
      exact Done.mk ⟨_, rfl⟩ (rel_full' H1.out H2.out H4.out HT.out HM.out kind_0)
    · obtain rfl := HA.out (by omega)
      have HCm : Hid (∀ i, i < m → w.cell? ⟨b, off + 10 + 1 + k + i, none⟩ = some (.int .u8 (up k (up 11 f) i))) := fun i hi => by
        have := HC11.out (k + i) (by have := HM.out; omega)
        rw [show off + 10 + 1 + k + i = off + 10 + 1 + (k + i) by omega]
        exact this
      have HRm : Hid (∀ i, 0 ≤ up k (up 11 f) i ∧ up k (up 11 f) i ≤ 255) := fun i => HR11.out (k + i)
      generalize hh : up k (up 11 f) = h at HCm HRm
      have HF : Hid (∀ x y, kindOf h m 0 = x ∧ whyOf h m 0 = y → MRel f (t + 11) (decide (2 ≤ v)) x y) := fun x y hk => rel_full' H1.out H2.out H4.out HT.out HM.out (by rw [hh]; exact hk)
      clear hh
      have hc0 : w.cell? ⟨b, off + 10 + 1 + k, none⟩ = some (.int .u8 (h 0)) := by simpa using HCm.out 0 (by omega)
      by_cases m1 : m = 1
      · subst m1
        cases z1 : (h 0 == 90)
        · cases z2 : (h 0 == 122)
          · go_wp2
            go_ret2
            exact Done.mk ⟨_, rfl⟩ (HF.out 0 16 (kind_no (by omega) (by rw [off_1, z1, z2]; rfl)))
          · go_wp2
            go_ret2
            exact Done.mk ⟨_, rfl⟩ (HF.out 6 0 (kind_yes (by omega) (by rw [off_1, z1, z2]; rfl)))
        · go_wp2
          go_ret2
          exact Done.mk ⟨_, rfl⟩ (HF.out 6 0 (kind_yes (by omega) (by rw [off_1, z1]; rfl)))
      have e1 : ((m : Int) == 1) = false := by simp; omega
      by_cases m6 : m = 6
      · subst m6
        have HC5 : Hid (∀ i, i < 5 → w.cell? ⟨b, off + 10 + 1 + k + 1 + i, none⟩ = some (.int .u8 (up 1 h i))) := fun i hi => by
          have := HCm.out (1 + i) (by omega)
          rw [show off + 10 + 1 + k + 1 + i = off + 10 + 1 + k + (1 + i) by omega]
          exact this
        have HR5 : Hid (∀ i, 0 ≤ up 1 h i ∧ up 1 h i ≤ 255) := fun i => HRm.out (1 + i)
        cases p5 : pre (up 1 h) 5 5
        · have P5 : Hid (pre (up 1 h) 5 5 = false) := p5
          cases z1 : (h 0 == 43)
          · cases z2 : (h 0 == 45)
            · go_wp2
              go_ret2
              exact Done.mk ⟨_, rfl⟩ (HF.out 0 16 (kind_no (by omega) (by rw [off_6, z1, z2]; rfl)))
            · go_wp2_with fail
              refine (fd5 _ _ _ _ (up 1 h) _ (by omega) HR5.out (cells_drewN HC5.out _)).mono ?_
              rintro e w5 ⟨rfl, q5, rfl⟩
              go_wp2
              go_ret2
              exact Done.mk ⟨_, rfl⟩ (HF.out 0 16 (kind_no (by omega) (by rw [off_6, z1, z2, P5.out]; rfl)))
          · go_wp2_with fail
            refine (fd5 _ _ _ _ (up 1 h) _ (by omega) HR5.out (cells_drewN HC5.out _)).mono ?_
            rintro e w5 ⟨rfl, q5, rfl⟩
            go_wp2
            go_ret2
            exact Done.mk ⟨_, rfl⟩ (HF.out 0 16 (kind_no (by omega) (by rw [off_6, z1, P5.out]; rfl)))
        · have P5 : Hid (pre (up 1 h) 5 5 = true) := p5
          cases z1 : (h 0 == 43)
          · cases z2 : (h 0 == 45)
            · go_wp2
              go_ret2
              exact Done.mk ⟨_, rfl⟩ (HF.out 0 16 (kind_no (by omega) (by rw [off_6, z1, z2]; rfl)))
            · go_wp2_with fail
              refine (fd5 _ _ _ _ (up 1 h) _ (by omega) HR5.out (cells_drewN HC5.out _)).mono ?_
              rintro e w5 ⟨rfl, q5, rfl⟩
              go_wp2
              go_ret2
              exact Done.mk ⟨_, rfl⟩ (HF.out 6 0 (kind_yes (by omega) (by rw [off_6, z1, z2, P5.out]; rfl)))
          · go_wp2_with fail
            refine (fd5 _ _ _ _ (up 1 h) _ (by omega) HR5.out (cells_drewN HC5.out _)).mono ?_
            rintro e w5 ⟨rfl, q5, rfl⟩
            go_wp2
            go_ret2
            exact Done.mk ⟨_, rfl⟩ (HF.out 6 0 (kind_yes (by omega) (by rw [off_6, z1, P5.out]; rfl)))
      have e0 : ((m : Int) == 0) = false := by simp; omega
      have e6 : ((m : Int) == 6) = false := by simp; omega
      go_wp2
      go_ret2
      exact Done.mk ⟨_, rfl⟩ (HF.out 0 16 (kind_no hm (off_no m1 m6)))
  · have hr' : (r != 0) = true := by simpa using hr
    go_wp2
    go_ret2
    exact Done.mk ⟨_, rfl⟩ (rel_full' H1.out H2.out H4.out HT.out HM.out (kind_r hr))

set_option maxHeartbeats 4000000 in
theorem mdt_t (b off t : Nat) (f : Nat → Int) (v : Int) (w : World) (hx : t + 11 ≤ 1048576) (hr : ∀ i, 0 ≤ f i ∧ f i ≤ 255) (hc : ∀ i, i < t + 11 → w.cell? ⟨b, off + i, none⟩ = some (.int .u8 (f i)))
    (c1 : timeOnly f (t + 11) = false) (c2 : preD f (t + 11) = true) (s1 : (f 10 == 84) = false) (s2 : (f 10 == 116) = true) (c4 : sepOK (f 10) = true) (ht0 : t ≠ 0) :
    Calls Try.prog 21 #[.slice (some ⟨b, off, none⟩) (t + 11) (t + 11), .int .u8 v] w (Done f (t + 11) (decide (2 ≤ v)) w) := by
  have HC : Hid (∀ i, i < t + 11 → w.cell? ⟨b, off + i, none⟩ = some (.int .u8 (f i))) := hc
  have HR : Hid (∀ i, 0 ≤ f i ∧ f i ≤ 255) := hr
  have H1 : Hid (timeOnly f (t + 11) = false) := c1
  have H2 : Hid (preD f (t + 11) = true) := c2
  have H4 : Hid (sepOK (f 10) = true) := c4
  have HC11 : Hid (∀ i, i < t → w.cell? ⟨b, off + 10 + 1 + i, none⟩ = some (.int .u8 (up 11 f i))) := fun i hi => by
    have := hc (11 + i) (by omega)
    rw [show off + 10 + 1 + i = off + (11 + i) by omega]
    exact this
  have HR11 : Hid (∀ i, 0 ≤ up 11 f i ∧ up 11 f i ≤ 255) := fun i => hr (11 + i)
  obtain ⟨h2, h58⟩ := not_time c1
  have h58' : (f 2 != 58) = true := by simp [bne, h58]
  have hc2 := hc 2 h2
  have hc10 := hc 10 (by omega)
  have ht1 : ¬ t + 1 = 1 := by omega
  have s1' : (f 10 != 84) = true := by simp [bne, s1]
  have s2' : (f 10 != 116) = false := by simp [bne, s2]
  clear hr hc c1 c4
  go_enter Try.func21, Try.ntmps21
  go_wp2_with fail
  refine (fd10 _ _ _ _ f _ (by omega) HR.out HC.out).mono ?_
  rintro e w1 ⟨rfl, q, rfl⟩
  go_wp2_with fail
  refine (pt _ _ _ (up 11 f) _ _ (by omega) HR11.out (cells_drewN HC11.out _)).mono ?_
  rintro e w1 ⟨⟨q1, rfl⟩, a, m, k, r, rfl, ht, hmk, ha⟩
  have HT : Hid (TSpec (up 11 f) t (decide (2 ≤ v)) k r) := ht
  have HM : Hid (m + k = t) := hmk
  have HA : Hid (0 < m → a = some ⟨b, off + 10 + 1 + k, none⟩) := ha
  have hmt : m ≤ t := by omega
  clear ht hmk ha c2 hc2 hc10
  by_cases hr : r = 0
  · subst hr
    by_cases hm : m = 0
    · subst hm
      go_wp2
      go_ret2
      exact Done.mk ⟨_, rfl⟩ (rel_full' H1.out H2.out H4.out HT.out HM.out kind_0)
    · obtain rfl := HA.out (by omega)
      have HCm : Hid (∀ i, i < m → w.cell? ⟨b, off + 10 + 1 + k + i, none⟩ = some (.int .u8 (up k (up 11 f) i))) := fun i hi => by
        have := HC11.out (k + i) (by have := HM.out; omega)
        rw [show off + 10 + 1 + k + i = off + 10 + 1 + (k + i) by omega]
        exact this
      have HRm : Hid (∀ i, 0 ≤ up k (up 11 f) i ∧ up k (up 11 f) i ≤ 255) := fun i => HR11.out (k + i)
      generalize hh : up k (up 11 f) = h at HCm HRm
      have HF : Hid (∀ x y, kindOf h m 0 = x ∧ whyOf h m 0 = y → MRel f (t + 11) (decide (2 ≤ v)) x y) := fun x y hk => rel_full' H1.out H2.out H4.out HT.out HM.out (by rw [hh]; exact hk)
      clear hh
      have hc0 : w.cell? ⟨b, off + 10 + 1 + k, none⟩ = some (.int .u8 (h 0)) := by simpa using HCm.out 0 (by omega)
      by_cases m1 : m = 1
      · subst m1
        cases z1 : (h 0 == 90)
        · cases z2 : (h 0 == 122)
          · go_wp2
            go_ret2
            exact Done.mk ⟨_, rfl⟩ (HF.out 0 16 (kind_no (by omega) (by rw [off_1, z1, z2]; rfl)))
          · go_wp2
            go_ret2
            exact Done.mk ⟨_, rfl⟩ (HF.out 6 0 (kind_yes (by omega) (by rw [off_1, z1, z2]; rfl)))
        · go_wp2
          go_ret2
          exact Done.mk ⟨_, rfl⟩ (HF.out 6 0 (kind_yes (by omega) (by rw [off_1, z1]; rfl)))
      have e1 : ((m : Int) == 1) = false := by simp; omega
      by_cases m6 : m = 6
      · subst m6
        have HC5 : Hid (∀ i, i < 5 → w.cell? ⟨b, off + 10 + 1 + k + 1 + i, none⟩ = some (.int .u8 (up 1 h i))) := fun i hi => by
          have := HCm.out (1 + i) (by omega)
          rw [show off + 10 + 1 + k + 1 + i = off + 10 + 1 + k + (1 + i) by omega]
          exact this
        have HR5 : Hid (∀ i, 0 ≤ up 1 h i ∧ up 1 h i ≤ 255) := fun i => HRm.out (1 + i)
        cases p5 : pre (up 1 h) 5 5
        · have P5 : Hid (pre (up 1 h) 5 5 = false) := p5
          cases z1 : (h 0 == 43)
          · cases z2 : (h 0 == 45)
            · go_wp2
              go_ret2
              exact Done.mk ⟨_, rfl⟩ (HF.out 0 16 (kind_no (by omega) (by rw [off_6, z1, z2]; rfl)))
            · go_wp2_with fail
              refine (fd5 _ _ _ _ (up 1 h) _ (by omega) HR5.out (cells_drewN HC5.out _)).mono ?_
              rintro e w5 ⟨rfl, q5, rfl⟩
              go_wp2
              go_ret2
              exact Done.mk ⟨_, rfl⟩ (HF.out 0 16 (kind_no (by omega) (by rw [off_6, z1, z2, P5.out]; rfl)))
          · go_wp2_with fail
            refine (fd5 _ _ _ _ (up 1 h) _ (by omega) HR5.out (cells_drewN HC5.out _)).mono ?_
            rintro e w5 ⟨rfl, q5, rfl⟩
            go_wp2
            go_ret2
            exact Done.mk ⟨_, rfl⟩ (HF.out 0 16 (kind_no (by omega) (by rw [off_6, z1, P5.out]; rfl)))
        · have P5 : Hid (pre (up 1 h) 5 5 = true) := p5
          cases z1 : (h 0 == 43)
          · cases z2 : (h 0 == 45)
            · go_wp2
              go_ret2
              exact Done.mk ⟨_, rfl⟩ (HF.out 0 16 (kind_no (by omega) (by rw [off_6, z1, z2]; rfl)))
            · go_wp2_with fail
              refine (fd5 _ _ _ _ (up 1 h) _ (by omega) HR5.out (cells_drewN HC5.out _)).mono ?_
              rintro e w5 ⟨rfl, q5, rfl⟩
              go_wp2
              go_ret2
              exact Done.mk ⟨_, rfl⟩ (HF.out 6 0 (kind_yes (by omega) (by rw [off_6, z1, z2, P5.out]; rfl)))
          · go_wp2_with fail
            refine (fd5 _ _ _ _ (up 1 h) _ (by omega) HR5.out (cells_drewN HC5.out _)).mono ?_
            rintro e w5 ⟨rfl, q5, rfl⟩
            go_wp2
            go_ret2
            exact Done.mk ⟨_, rfl⟩ (HF.out 6 0 (kind_yes (by omega) (by rw [off_6, z1, P5.out]; rfl)))
      have e0 : ((m : Int) == 0) = false := by simp; omega
      have e6 : ((m : Int) == 6) = false := by simp; omega
      go_wp2
      go_ret2
      exact Done.mk ⟨_, rfl⟩ (HF.out 0 16 (kind_no hm (off_no m1 m6)))
  · have hr' : (r != 0) = true := by simpa using hr
    go_wp2
    go_ret2
    exact Done.mk ⟨_, rfl⟩ (rel_full' H1.out H2.out H4.out HT.out HM.out (kind_r hr))

set_option maxHeartbeats 4000000 in
theorem mdt_sp (b off t : Nat) (f : Nat → Int) (v : Int) (w : World) (hx : t + 11 ≤ 1048576) (hr : ∀ i, 0 ≤ f i ∧ f i ≤ 255) (hc : ∀ i, i < t + 11 → w.cell? ⟨b, off + i, none⟩ = some (.int .u8 (f i)))
    (c1 : timeOnly f (t + 11) = false) (c2 : preD f (t + 11) = true) (s1 : (f 10 == 84) = false) (s2 : (f 10 == 116) = false) (s3 : (f 10 == 32) = true) (c4 : sepOK (f 10) = true) (ht0 : t ≠ 0) :
    Calls Try.prog 21 #[.slice (some ⟨b, off, none⟩) (t + 11) (t + 11), .int .u8 v] w (Done f (t + 11) (decide (2 ≤ v)) w) := by
  have HC : Hid (∀ i, i < t + 11 → w.cell? ⟨b, off + i, none⟩ = some (.int .u8 (f i))) := hc
  have HR : Hid (∀ i, 0 ≤ f i ∧ f i ≤ 255) := hr
  have H1 : Hid (timeOnly f (t + 11) = false) := c1
  have H2 : Hid (preD f (t + 11) = true) := c2
  have H4 : Hid (sepOK (f 10) = true) := c4
  have HC11 : Hid (∀ i, i < t → w.cell? ⟨b, off + 10 + 1 + i, none⟩ = some (.int .u8 (up 11 f i))) := fun i hi => by
    have := hc (11 + i) (by omega)
    rw [show off + 10 + 1 + i = off + (11 + i) by omega]
    exact this
  have HR11 : Hid (∀ i, 0 ≤ up 11 f i ∧ up 11 f i ≤ 255) := fun i => hr (11 + i)
  obtain ⟨h2, h58⟩ := not_time c1
  have h58' : (f 2 != 58) = true := by simp [bne, h58]
  have hc2 := hc 2 h2
  have hc10 := hc 10 (by omega)
  have ht1 : ¬ t + 1 = 1 := by omega
  have s1' : (f 10 != 84) = true := by simp [bne, s1]
  have s2' : (f 10 != 116) = true := by simp [bne, s2]
  have s3' : (f 10 != 32) = false := by simp [bne, s3]
  clear hr hc c1 c4
  go_enter Try.func21, Try.ntmps21
  go_wp2_with fail
  refine (fd10 _ _ _ _ f _ (by omega) HR.out HC.out).mono ?_
  rintro e w1 ⟨rfl, q, rfl⟩
  go_wp2_with fail
  refine (pt _ _ _ (up 11 f) _ _ (by omega) HR11.out (cells_drewN HC11.out _)).mono ?_
  rintro e w1 ⟨⟨q1, rfl⟩, a, m, k, r, rfl, ht, hmk, ha⟩
  have HT : Hid (TSpec (up 11 f) t (decide (2 ≤ v)) k r) := ht
  have HM : Hid (m + k = t) := hmk
  have HA : Hid (0 < m → a = some ⟨b, off + 10 + 1 + k, none⟩) := ha
  have hmt : m ≤ t := by omega
  clear ht hmk ha c2 hc2 hc10
  by_cases hr : r = 0
  · subst hr
    by_cases hm : m = 0
    · subst hm
      go_wp2
      go_ret2
      exact Done.mk ⟨_, rfl⟩ (rel_full' H1.out H2.out H4.out HT.out HM.out kind_0)
    · obtain rfl := HA.out (by omega)
      have HCm : Hid (∀ i, i < m → w.cell? ⟨b, off + 10 + 1 + k + i, none⟩ = some (.int .u8 (up k (up 11 f) i))) := fun i hi => by
        have := HC11.out (k + i) (by have := HM.out; omega)
        rw [show off + 10 + 1 + k + i = off + 10 + 1 + (k + i) by omega]
        exact this
      have HRm : Hid (∀ i, 0 ≤ up k (up 11 f) i ∧ up k (up 11 f) i ≤ 255) := fun i => HR11.out (k + i)
      generalize hh : up k (up 11 f) = h at HCm HRm
      have HF : Hid (∀ x y, kindOf h m 0 = x ∧ whyOf h m 0 = y → MRel f (t + 11) (decide (2 ≤ v)) x y) := fun x y hk => rel_full' H1.out H2.out H4.out HT.out HM.out (by rw [hh]; exact hk)
      clear hh
      have hc0 : w.cell? ⟨b, off + 10 + 1 + k, none⟩ = some (.int .u8 (h 0)) := by simpa using HCm.out 0 (by omega)
      by_cases m1 : m = 1
      · subst m1
        cases z1 : (h 0 == 90)
        · cases z2 : (h 0 == 122)
          · go_wp2
            go_ret2
            exact Done.mk ⟨_, rfl⟩ (HF.out 0 16 (kind_no (by omega) (by rw [off_1, z1, z2]; rfl)))
          · go_wp2
            go_ret2
            exact Done.mk ⟨_, rfl⟩ (HF.out 6 0 (kind_yes (by omega) (by rw [off_1, z1, z2]; rfl)))
        · go_wp2
          go_ret2
          exact Done.mk ⟨_, rfl⟩ (HF.out 6 0 (kind_yes (by omega) (by rw [off_1, z1]; rfl)))
      have e1 : ((m : Int) == 1) = false := by simp; omega
      by_cases m6 : m = 6
      · subst m6
        have HC5 : Hid (∀ i, i < 5 → w.cell? ⟨b, off + 10 + 1 + k + 1 + i, none⟩ = some (.int .u8 (up 1 h i))) := fun i hi => by
          have := HCm.out (1 + i) (by omega)
          rw [show off + 10 + 1 + k + 1 + i = off + 10 + 1 + k + (1 + i) by omega]
          exact this
        have HR5 : Hid (∀ i, 0 ≤ up 1 h i ∧ up 1 h i ≤ 255) := fun i => HRm.out (1 + i)
        cases p5 : pre (up 1 h) 5 5
        · have P5 : Hid (pre (up 1 h) 5 5 = false) := p5
          cases z1 : (h 0 == 43)
          · cases z2 : (h 0 == 45)
            · go_wp2
              go_ret2
              exact Done.mk ⟨_, rfl⟩ (HF.out 0 16 (kind_no (by omega) (by rw [off_6, z1, z2]; rfl)))
            · go_wp2_with fail
              refine (fd5 _ _ _ _ (up 1 h) _ (by omega) HR5.out (cells_drewN HC5.out _)).mono ?_
              rintro e w5 ⟨rfl, q5, rfl⟩
              go_wp2
              go_ret2
              exact Done.mk ⟨_, rfl⟩ (HF.out 0 16 (kind_no (by omega) (by rw [off_6, z1, z2, P5.out]; rfl)))
          · go_wp2_with fail
            refine (fd5 _ _ _ _ (up 1 h) _ (by omega) HR5.out (cells_drewN HC5.out _)).mono ?_
            rintro e w5 ⟨rfl, q5, rfl⟩
            go_wp2
            go_ret2
            exact Done.mk ⟨_, rfl⟩ (HF.out 0 16 (kind_no (by omega) (by rw [off_6, z1, P5.out]; rfl)))
        · have P5 : Hid (pre (up 1 h) 5 5 = true) := p5
          cases z1 : (h 0 == 43)
          · cases z2 : (h 0 == 45)
            · go_wp2
              go_ret2
              exact Done.mk ⟨_, rfl⟩ (HF.out 0 16 (kind_no (by omega) (by rw [off_6, z1, z2]; rfl)))
            · go_wp2_with fail
              refine (fd5 _ _ _ _ (up 1 h) _ (by omega) HR5.out (cells_drewN HC5.out _)).mono ?_
              rintro e w5 ⟨rfl, q5, rfl⟩
              go_wp2
              go_ret2
              exact Done.mk ⟨_, rfl⟩ (HF.out 6 0 (kind_yes (by omega) (by rw [off_6, z1, z2, P5.out]; rfl)))
          · go_wp2_with fail
            refine (fd5 _ _ _ _ (up 1 h) _ (by omega) HR5.out (cells_drewN HC5.out _)).mono ?_
            rintro e w5 ⟨rfl, q5, rfl⟩
            go_wp2
            go_ret2
            exact Done.mk ⟨_, rfl⟩ (HF.out 6 0 (kind_yes (by omega) (by rw [off_6, z1, P5.out]; rfl)))
      have e0 : ((m : Int) == 0) = false := by simp; omega
      have e6 : ((m : Int) == 6) = false := by simp; omega
      go_wp2
      go_ret2
      exact Done.mk ⟨_, rfl⟩ (HF.out 0 16 (kind_no hm (off_no m1 m6)))
  · have hr' : (r != 0) = true := by simpa using hr
    go_wp2
    go_ret2
    exact Done.mk ⟨_, rfl⟩ (rel_full' H1.out H2.out H4.out HT.out HM.out (kind_r hr))

set_option maxHeartbeats 4000000 in
theorem mdt_11 (b off : Nat) (f : Nat → Int) (v : Int) (w : World) (hr : ∀ i, 0 ≤ f i ∧ f i ≤ 255) (hc : ∀ i, i < 11 → w.cell? ⟨b, off + i, none⟩ = some (.int .u8 (f i)))
    (c1 : timeOnly f 11 = false) (c2 : preD f 11 = true) (c4 : sepOK (f 10) = true) :
    Calls Try.prog 21 #[.slice (some ⟨b, off, none⟩) 11 11, .int .u8 v] w (Done f 11 (decide (2 ≤ v)) w) := by
  have HC : Hid (∀ i, i < 11 → w.cell? ⟨b, off + i, none⟩ = some (.int .u8 (f i))) := hc
  have HR : Hid (∀ i, 0 ≤ f i ∧ f i ≤ 255) := hr
  have H1 : Hid (timeOnly f (0 + 11) = false) := c1
  have H2 : Hid (preD f (0 + 11) = true) := c2
  have H4 : Hid (sepOK (f 10) = true) := c4
  have HR11 : Hid (∀ i, 0 ≤ up 11 f i ∧ up 11 f i ≤ 255) := fun i => hr (11 + i)
  obtain ⟨h2, h58⟩ := not_time c1
  have h58' : (f 2 != 58) = true := by simp [bne, h58]
  have hc2 := hc 2 h2
  have hc10 := hc 10 (by omega)
  have c5 : ((f 10 == 84) || (f 10 == 116) || (f 10 == 32)) = true := c4
  clear hr hc c1 c4
  cases s1 : (f 10 == 84)
  · have s1' : (f 10 != 84) = true := by simp [bne, s1]
    cases s2 : (f 10 == 116)
    · have s2' : (f 10 != 116) = true := by simp [bne, s2]
      have s3 : (f 10 == 32) = true := by rw [s1, s2] at c5; exact c5
      have s3' : (f 10 != 32) = false := by simp [bne, s3]
      clear c5
      go_enter Try.func21, Try.ntmps21
      go_wp2_with fail
      refine (fd10 _ _ _ _ f _ (by omega) HR.out HC.out).mono ?_
      rintro e w1 ⟨rfl, q, rfl⟩
      go_wp2_with fail
      refine (pt _ _ _ (up 11 f) _ _ (by omega) HR11.out (fun i hi => absurd hi (by omega))).mono ?_
      rintro e w1 ⟨⟨q1, rfl⟩, a, m, k, r, rfl, ht, hmk, ha⟩
      have HT : Hid (TSpec (up 11 f) 0 (decide (2 ≤ v)) k r) := ht
      have HM : Hid (m + k = 0) := hmk
      obtain rfl : m = 0 := by omega
      clear ht hmk ha c2 hc2 hc10
      by_cases hr : r = 0
      · subst hr
        go_wp2
        go_ret2
        exact Done.mk ⟨_, rfl⟩ (rel_full' H1.out H2.out H4.out HT.out HM.out kind_0)
      · have hr' : (r != 0) = true := by simpa using hr
        go_wp2
        go_ret2
        exact Done.mk ⟨_, rfl⟩ (rel_full' H1.out H2.out H4.out HT.out HM.out (kind_r hr))
    · have s2' : (f 10 != 116) = false := by simp [bne, s2]
      clear c5
      go_enter Try.func21, Try.ntmps21
      go_wp2_with fail
      refine (fd10 _ _ _ _ f _ (by omega) HR.out HC.out).mono ?_
      rintro e w1 ⟨rfl, q, rfl⟩
      go_wp2_with fail
      refine (pt _ _ _ (up 11 f) _ _ (by omega) HR11.out (fun i hi => absurd hi (by omega))).mono ?_
      rintro e w1 ⟨⟨q1, rfl⟩, a, m, k, r, rfl, ht, hmk, ha⟩
      have HT : Hid (TSpec (up 11 f) 0 (decide (2 ≤ v)) k r) := ht
      have HM : Hid (m + k = 0) := hmk
      obtain rfl : m = 0 := by omega
      clear ht hmk ha c2 hc2 hc10
      by_cases hr : r = 0
      · subst hr
        go_wp2
        go_ret2
        exact Done.mk ⟨_, rfl⟩ (rel_full' H1.out H2.out H4.out HT.out HM.out kind_0)
      · have hr' : (r != 0) = true := by simpa using hr
        go_wp2
        go_ret2
        exact Done.mk ⟨_, rfl⟩ (rel_full' H1.out H2.out H4.out HT.out HM.out (kind_r hr))
  · have s1' : (f 10 != 84) = false := by simp [bne, s1]
    clear c5
    go_enter Try.func21, Try.ntmps21
    go_wp2_with fail
    refine (fd10 _ _ _ _ f _ (by omega) HR.out HC.out).mono ?_
    rintro e w1 ⟨rfl, q, rfl⟩
    go_wp2_with fail
    refine (pt _ _ _ (up 11 f) _ _ (by omega) HR11.out (fun i hi => absurd hi (by omega))).mono ?_
    rintro e w1 ⟨⟨q1, rfl⟩, a, m, k, r, rfl, ht, hmk, ha⟩
    have HT : Hid (TSpec (up 11 f) 0 (decide (2 ≤ v)) k r) := ht
    have HM : Hid (m + k = 0) := hmk
    obtain rfl : m = 0 := by omega
    clear ht hmk ha c2 hc2 hc10
    by_cases hr : r = 0
    · subst hr
      go_wp2
      go_ret2
      exact Done.mk ⟨_, rfl⟩ (rel_full' H1.out H2.out H4.out HT.out HM.out kind_0)
    · have hr' : (r != 0) = true := by simpa using hr
      go_wp2
      go_ret2
      exact Done.mk ⟨_, rfl⟩ (rel_full' H1.out H2.out H4.out HT.out HM.out (kind_r hr))

theorem mdt (b off n : Nat) (f : Nat → Int) (v : Int) (w : World) (hx : n ≤ 1048576) (hr : ∀ i, 0 ≤ f i ∧ f i ≤ 255) (hc : ∀ i, i < n → w.cell? ⟨b, off + i, none⟩ = some (.int .u8 (f i))) :
    Calls Try.prog 21 #[.slice (some ⟨b, off, none⟩) n n, .int .u8 v] w (Done f n (decide (2 ≤ v)) w) := by
  cases c1 : timeOnly f n
  · cases c2 : preD f n
    · exact mdt_bad b off n f v w hx hr hc c1 c2
    · have h10 := (preD_true c2).1
      by_cases h : n = 10
      · subst h
        exact mdt_date b off f v w hr hc c1 c2
      · obtain ⟨t, rfl⟩ : ∃ t, n = t + 11 := ⟨n - 11, by omega⟩
        cases c4 : sepOK (f 10)
        · exact mdt_sep b off t f v w hx hr hc c1 c2 c4
        · by_cases ht : t = 0
          · subst ht
            exact mdt_11 b off f v w hr hc c1 c2 c4
          have c5 : ((f 10 == 84) || (f 10 == 116) || (f 10 == 32)) = true := c4
          cases s1 : (f 10 == 84)
          · cases s2 : (f 10 == 116)
            · exact mdt_sp b off t f v w hx hr hc c1 c2 s1 s2 (by rw [s1, s2] at c5; exact c5) c4 ht
            · exact mdt_t b off t f v w hx hr hc c1 c2 s1 s2 c4 ht
          · exact mdt_T b off t f v w hx hr hc c1 c2 s1 c4 ht
  · exact mdt_time b off n f v w hx hr hc c1

/-- At a nil slice. -/
theorem mdt_nil (v : Int) (w : World) : Calls Try.prog 21 #[.slice none 0 0, .int .u8 v] w fun e w' => e = .returned (.tuple #[.int .u8 9, .int .u8 (r0 (decide (2 ≤ v)))]) ∧ w' = w := by
  go_enter Try.func21, Try.ntmps21
  go_wp2_with fail
  refine (pt_empty _ _ _ _).mono ?_
  rintro e w1 ⟨rfl, rfl⟩
  by_cases hv : 2 ≤ v
  · have e : r0 (decide (2 ≤ v)) = 12 := by rw [decide_eq_true hv]; rfl
    rw [e]
    go_wp2
    go_ret2
    exact ⟨by rw [e]; rfl, rfl⟩
  · have e : r0 (decide (2 ≤ v)) = 11 := by rw [decide_eq_false hv]; rfl
    rw [e]
    go_wp2
    go_ret2
    exact ⟨by rw [e]; rfl, rfl⟩
end Go.Proofs.Qxb6604205a.matchT
