import Derived.Test.Qxb6604205aTimeModel
namespace Go.Proofs.Qxb6604205a.partialT
open Go.ChangeShapes Go.WideShapes Go.ChangeAt Go.RowKit
open Go.Proofs.Qxb6604205a.plain Go.Proofs.Qxb6604205a.short Go.Proofs.Qxb6604205a.fixed Go.Proofs.Qxb6604205a.timeModel
set_option linter.unusedVariables false

/-- The first m bytes are there and fit the shape of a time. -/
def pre (f : Nat → Int) (n m : Nat) : Bool := decide (m ≤ n) && (List.range m).all (okT f)
theorem pre_true {f : Nat → Int} {n m : Nat} (h : pre f n m = true) : m ≤ n ∧ ∀ i, i < m → okT f i = true := by
  unfold pre at h
  simp at h
  exact h
theorem pre_mk {f : Nat → Int} {n m : Nat} (h : m ≤ n) (h' : ∀ i, i < m → okT f i = true) : pre f n m = true := by
  unfold pre
  simp
  exact ⟨h, h'⟩
theorem pre_no {f : Nat → Int} {n m i : Nat} (h : i < m) (h' : okT f i = false) : pre f n m = false := by
  cases e : pre f n m
  · rfl
  · rw [(pre_true e).2 i h] at h'; cases h'
theorem pre_short {f : Nat → Int} {n m : Nat} (h : n < m) : pre f n m = false := by
  cases e : pre f n m
  · rfl
  · have := (pre_true e).1; omega

theorem okS5 (f : Nat → Int) (i : Nat) (h : i < 5) : okS f ⟨#[100, 100, 58, 100, 100]⟩ i = okT f i := by
  rcases (by omega : i = 0 ∨ i = 1 ∨ i = 2 ∨ i = 3 ∨ i = 4) with rfl | rfl | rfl | rfl | rfl <;> rfl
theorem okS8 (f : Nat → Int) (i : Nat) (h : i < 8) : okS f ⟨#[100, 100, 58, 100, 100, 58, 100, 100]⟩ i = okT f i := by
  rcases (by omega : i = 0 ∨ i = 1 ∨ i = 2 ∨ i = 3 ∨ i = 4 ∨ i = 5 ∨ i = 6 ∨ i = 7) with rfl | rfl | rfl | rfl | rfl | rfl | rfl | rfl <;> rfl

theorem fd5 (b off n c : Nat) (f : Nat → Int) (w : World) (hx : n ≤ 1048576) (hr : ∀ i, 0 ≤ f i ∧ f i ≤ 255) (hc : ∀ i, i < n → w.cell? ⟨b, off + i, none⟩ = some (.int .u8 (f i))) :
    Calls Try.prog 26 #[.slice (some ⟨b, off, none⟩) n c, .string ⟨#[100, 100, 58, 100, 100]⟩] w fun e w' => e = .returned (.bool (pre f n 5)) ∧ ∃ q, w' = w.drewN q := by
  by_cases h : n < 5
  · rw [pre_short h]
    exact (fd_short _ _ _ _ _ h).mono fun e w' ⟨h1, h2⟩ => ⟨h1, 0, h2⟩
  · refine (fd b off n c f ⟨#[100, 100, 58, 100, 100]⟩ w (show 5 ≤ n by omega) hx hr hc).mono fun e w' ⟨hq, ho⟩ => ⟨?_, hq⟩
    rcases ho with ⟨rfl, ho⟩ | ⟨rfl, i, hi, ho⟩
    · rw [pre_mk (by omega) (fun i hi => by rw [← okS5 f i hi]; exact ho i hi)]
    · rw [pre_no (m := 5) hi (by rw [← okS5 f i hi]; exact ho)]
theorem fd8 (b off n c : Nat) (f : Nat → Int) (w : World) (hx : n ≤ 1048576) (hr : ∀ i, 0 ≤ f i ∧ f i ≤ 255) (hc : ∀ i, i < n → w.cell? ⟨b, off + i, none⟩ = some (.int .u8 (f i))) :
    Calls Try.prog 26 #[.slice (some ⟨b, off, none⟩) n c, .string ⟨#[100, 100, 58, 100, 100, 58, 100, 100]⟩] w fun e w' => e = .returned (.bool (pre f n 8)) ∧ ∃ q, w' = w.drewN q := by
  by_cases h : n < 8
  · rw [pre_short h]
    exact (fd_short _ _ _ _ _ h).mono fun e w' ⟨h1, h2⟩ => ⟨h1, 0, h2⟩
  · refine (fd b off n c f ⟨#[100, 100, 58, 100, 100, 58, 100, 100]⟩ w (show 8 ≤ n by omega) hx hr hc).mono fun e w' ⟨hq, ho⟩ => ⟨?_, hq⟩
    rcases ho with ⟨rfl, ho⟩ | ⟨rfl, i, hi, ho⟩
    · rw [pre_mk (by omega) (fun i hi => by rw [← okS8 f i hi]; exact ho i hi)]
    · rw [pre_no (m := 8) hi (by rw [← okS8 f i hi]; exact ho)]

theorem optSec (v : Int) (w : World) : Calls Try.prog 25 #[.int .u8 v] w fun e w' => e = .returned (.bool (decide (2 ≤ v))) ∧ w' = w := by
  go_enter Try.func25, Try.ntmps25
  go_wp2
  go_ret
  exact ⟨rfl, rfl⟩

/-- What partialTime leaves: the rest of the slice behind k bytes, and the reason. -/
def Left (b off n : Nat) (f : Nat → Int) (nw : Bool) (w : World) (e : Ending) (w' : World) : Prop :=
  (∃ q, w' = w.drewN q) ∧ ∃ (a : Option Addr) (m k : Nat) (r : Int), e = .returned (.tuple #[.slice a m m, .int .u8 r]) ∧ TSpec f n nw k r ∧ m + k = n ∧ (0 < m → a = some ⟨b, off + k, none⟩)

theorem ts_bad {f : Nat → Int} {n : Nat} (h8 : pre f n 8 = false) : TSpec f n false 0 11 := by
  obtain ⟨m, hm⟩ := scan_exists f n
  refine ⟨m, hm, .inr (.inr (.inr (.inr ⟨?_, rfl, rfl, rfl⟩)))⟩
  rintro rfl
  rw [pre_mk hm.2.1 hm.2.2.1] at h8
  cases h8
theorem ts_bad2 {f : Nat → Int} {n : Nat} (h8 : pre f n 8 = false) (h5 : pre f n 5 = true → 5 < n ∧ f 5 = 58) : TSpec f n true 0 12 := by
  obtain ⟨m, hm⟩ := scan_exists f n
  refine ⟨m, hm, .inr (.inr (.inr (.inl ⟨?_, ?_, rfl, rfl, rfl⟩)))⟩
  · rintro rfl
    rw [pre_mk hm.2.1 hm.2.2.1] at h8
    cases h8
  · rintro rfl
    obtain ⟨c1, c2⟩ := h5 (pre_mk hm.2.1 hm.2.2.1)
    have e : okT f 5 = true := by simp [okT, okTB, c2]
    rcases hm.2.2.2 with d | d | d
    · omega
    · omega
    · rw [e] at d; cases d
theorem scan5 {f : Nat → Int} {n : Nat} (h : pre f n 5 = true) (h' : n = 5 ∨ f 5 ≠ 58) : Scan f n 5 := by
  obtain ⟨h1, h2⟩ := pre_true h
  refine ⟨by omega, h1, h2, ?_⟩
  rcases h' with d | d
  · exact .inr (.inl d.symm)
  · exact .inr (.inr (by simp [okT, okTB, d]))
theorem scan8 {f : Nat → Int} {n : Nat} (h : pre f n 8 = true) : Scan f n 8 := ⟨by omega, (pre_true h).1, (pre_true h).2, .inl rfl⟩

theorem cells_drewN {w : World} {b off n : Nat} {f : Nat → Int} (h : ∀ i, i < n → w.cell? ⟨b, off + i, none⟩ = some (.int .u8 (f i))) (q : Nat) : ∀ i, i < n → (w.drewN q).cell? ⟨b, off + i, none⟩ = some (.int .u8 (f i)) := by
  intro i hi
  simpa using h i hi

set_option maxHeartbeats 1000000 in
theorem pt_short (b off n : Nat) (f : Nat → Int) (v : Int) (w : World) (hx : n ≤ 1048576) (hr : ∀ i, 0 ≤ f i ∧ f i ≤ 255) (hc : ∀ i, i < n → w.cell? ⟨b, off + i, none⟩ = some (.int .u8 (f i)))
    (hv : 2 ≤ v) (h5 : pre f n 5 = true) (h' : n = 5 ∨ (5 < n ∧ (f 5 == 58) = false)) :
    Calls Try.prog 19 #[.slice (some ⟨b, off, none⟩) n n, .int .u8 v] w (Left b off n f true w) := by
  have HC : Hid (∀ i, i < n → w.cell? ⟨b, off + i, none⟩ = some (.int .u8 (f i))) := hc
  have HR : Hid (∀ i, 0 ≤ f i ∧ f i ≤ 255) := hr
  clear hc hr
  rcases h' with rfl | ⟨hn, h58⟩
  · have HS : Hid (Scan f 5 5) := scan5 h5 (.inl rfl)
    go_enter Try.func19, Try.ntmps19
    go_wp2_with (first | (go_at_call 25; refine (optSec _ _).mono ?_; rintro e w' ⟨rfl, rfl⟩) | (go_at_call 26; refine (fd5 _ _ _ _ f _ hx HR.out HC.out).mono ?_; rintro e w' ⟨rfl, q, rfl⟩))
    go_ret2
    exact ⟨⟨_, rfl⟩, _, 0, 5, 0, rfl, ⟨5, HS.out, by simp⟩, rfl, fun h => absurd h (by omega)⟩
  · have HS : Hid (Scan f n 5) := scan5 h5 (.inr (by simpa using h58))
    have h58' : (f 5 != 58) = true := by simpa [bne] using h58
    have hc5 := HC.out 5 hn
    cases h46 : (f 5 == 46)
    · go_enter Try.func19, Try.ntmps19
      go_wp2_with (first | (go_at_call 25; refine (optSec _ _).mono ?_; rintro e w' ⟨rfl, rfl⟩) | (go_at_call 26; refine (fd5 _ _ _ _ f _ hx HR.out HC.out).mono ?_; rintro e w' ⟨rfl, q, rfl⟩))
      go_ret2
      exact ⟨⟨_, rfl⟩, _, n - 5, 5, 0, rfl, ⟨5, HS.out, by simp; simp at h46; omega⟩, by omega, fun h => rfl⟩
    · go_enter Try.func19, Try.ntmps19
      go_wp2_with (first | (go_at_call 25; refine (optSec _ _).mono ?_; rintro e w' ⟨rfl, rfl⟩) | (go_at_call 26; refine (fd5 _ _ _ _ f _ hx HR.out HC.out).mono ?_; rintro e w' ⟨rfl, q, rfl⟩))
      go_ret2
      exact ⟨⟨_, rfl⟩, _, n, 0, 14, rfl, ⟨5, HS.out, by simp; simp at h46; omega⟩, by omega, fun h => rfl⟩

set_option maxHeartbeats 1000000 in
theorem pt_bad_old (b off n : Nat) (f : Nat → Int) (v : Int) (w : World) (hx : n ≤ 1048576) (hr : ∀ i, 0 ≤ f i ∧ f i ≤ 255) (hc : ∀ i, i < n → w.cell? ⟨b, off + i, none⟩ = some (.int .u8 (f i)))
    (hv : ¬ 2 ≤ v) (h8 : pre f n 8 = false) :
    Calls Try.prog 19 #[.slice (some ⟨b, off, none⟩) n n, .int .u8 v] w (Left b off n f false w) := by
  have HC : Hid (∀ i, i < n → w.cell? ⟨b, off + i, none⟩ = some (.int .u8 (f i))) := hc
  have HR : Hid (∀ i, 0 ≤ f i ∧ f i ≤ 255) := hr
  clear hc hr
  have hv' : decide (2 ≤ v) = false := by simpa using hv
  clear hv
  have HT : Hid (TSpec f n false 0 11) := ts_bad h8
  go_enter Try.func19, Try.ntmps19
  go_wp2_with (first | (go_at_call 25; refine (optSec _ _).mono ?_; rintro e w' ⟨rfl, rfl⟩) | (go_at_call 26; refine (fd8 _ _ _ _ f _ hx HR.out HC.out).mono ?_; rintro e w' ⟨rfl, q, rfl⟩))
  go_ret2
  exact ⟨⟨_, rfl⟩, _, n, 0, 11, rfl, HT.out, by omega, fun h => rfl⟩

set_option maxHeartbeats 1000000 in
theorem pt_bad_new (b off n : Nat) (f : Nat → Int) (v : Int) (w : World) (hx : n ≤ 1048576) (hr : ∀ i, 0 ≤ f i ∧ f i ≤ 255) (hc : ∀ i, i < n → w.cell? ⟨b, off + i, none⟩ = some (.int .u8 (f i)))
    (hv : 2 ≤ v) (h8 : pre f n 8 = false) (h5 : pre f n 5 = false) :
    Calls Try.prog 19 #[.slice (some ⟨b, off, none⟩) n n, .int .u8 v] w (Left b off n f true w) := by
  have HC : Hid (∀ i, i < n → w.cell? ⟨b, off + i, none⟩ = some (.int .u8 (f i))) := hc
  have HR : Hid (∀ i, 0 ≤ f i ∧ f i ≤ 255) := hr
  clear hc hr
  have HT : Hid (TSpec f n true 0 12) := ts_bad2 h8 (fun h => by rw [h5] at h; cases h)
  go_enter Try.func19, Try.ntmps19
  go_wp2_with fail
  refine (optSec _ _).mono ?_
  rintro e w' ⟨rfl, rfl⟩
  go_wp2_with fail
  refine (fd5 _ _ _ _ f _ hx HR.out HC.out).mono ?_
  rintro e w1 ⟨rfl, q, rfl⟩
  go_wp2_with fail
  refine (fd8 _ _ _ _ f _ hx HR.out (cells_drewN HC.out _)).mono ?_
  rintro e w2 ⟨rfl, q2, rfl⟩
  go_wp2_with (first | (go_at_call 25; refine (optSec _ _).mono ?_; rintro e w' ⟨rfl, rfl⟩))
  go_ret2
  exact ⟨⟨_, rfl⟩, _, n, 0, 12, rfl, HT.out, by omega, fun h => rfl⟩

set_option maxHeartbeats 1000000 in
theorem pt_bad_colon (b off n : Nat) (f : Nat → Int) (v : Int) (w : World) (hx : n ≤ 1048576) (hr : ∀ i, 0 ≤ f i ∧ f i ≤ 255) (hc : ∀ i, i < n → w.cell? ⟨b, off + i, none⟩ = some (.int .u8 (f i)))
    (hv : 2 ≤ v) (h8 : pre f n 8 = false) (h5 : pre f n 5 = true) (hn : 5 < n) (h58 : (f 5 == 58) = true) :
    Calls Try.prog 19 #[.slice (some ⟨b, off, none⟩) n n, .int .u8 v] w (Left b off n f true w) := by
  have HC : Hid (∀ i, i < n → w.cell? ⟨b, off + i, none⟩ = some (.int .u8 (f i))) := hc
  have HR : Hid (∀ i, 0 ≤ f i ∧ f i ≤ 255) := hr
  clear hc hr
  have HT : Hid (TSpec f n true 0 12) := ts_bad2 h8 (fun h => ⟨hn, by simpa using h58⟩)
  have h58' : (f 5 != 58) = false := by simpa [bne] using h58
  have hc5 := HC.out 5 hn
  have hne : ((n : Int) == 5) = false := by simp; omega
  go_enter Try.func19, Try.ntmps19
  go_wp2_with fail
  refine (optSec _ _).mono ?_
  rintro e w' ⟨rfl, rfl⟩
  go_wp2_with fail
  refine (fd5 _ _ _ _ f _ hx HR.out HC.out).mono ?_
  rintro e w1 ⟨rfl, q, rfl⟩
  go_wp2_with fail
  refine (fd8 _ _ _ _ f _ hx HR.out (cells_drewN HC.out _)).mono ?_
  rintro e w2 ⟨rfl, q2, rfl⟩
  go_wp2_with (first | (go_at_call 25; refine (optSec _ _).mono ?_; rintro e w' ⟨rfl, rfl⟩))
  go_ret2
  exact ⟨⟨_, rfl⟩, _, n, 0, 12, rfl, HT.out, by omega, fun h => rfl⟩

theorem pre_58 {f : Nat → Int} {n : Nat} (h : pre f n 8 = true) : pre f n 5 = true ∧ (f 5 == 58) = true := by
  obtain ⟨h1, h2⟩ := pre_true h
  exact ⟨pre_mk (by omega) (fun i hi => h2 i (by omega)), h2 5 (by omega)⟩

set_option maxHeartbeats 2000000 in
theorem pt_full_old (b off p : Nat) (f : Nat → Int) (v : Int) (w : World) (hx : p + 8 ≤ 1048576) (hr : ∀ i, 0 ≤ f i ∧ f i ≤ 255) (hc : ∀ i, i < p + 8 → w.cell? ⟨b, off + i, none⟩ = some (.int .u8 (f i)))
    (hv : ¬ 2 ≤ v) (h8 : pre f (p + 8) 8 = true) :
    Calls Try.prog 19 #[.slice (some ⟨b, off, none⟩) (p + 8) (p + 8), .int .u8 v] w (Left b off (p + 8) f false w) := by
  have HC : Hid (∀ i, i < p + 8 → w.cell? ⟨b, off + i, none⟩ = some (.int .u8 (f i))) := hc
  have HR : Hid (∀ i, 0 ≤ f i ∧ f i ≤ 255) := hr
  have HS : Hid (Scan f (p + 8) 8) := scan8 h8
  have hv' : decide (2 ≤ v) = false := by simpa using hv
  clear hv
  clear hc hr
  by_cases hp : p = 0
  · subst hp
    go_enter Try.func19, Try.ntmps19
    go_wp2_with fail
    refine (optSec _ _).mono ?_
    rintro e w' ⟨rfl, rfl⟩
    go_wp2_with fail
    refine (fd8 _ _ _ _ f _ hx HR.out HC.out).mono ?_
    rintro e w1 ⟨rfl, q, rfl⟩
    go_wp2
    go_ret2
    exact ⟨⟨_, rfl⟩, _, 0, 8, 0, rfl, ⟨8, HS.out, by simp⟩, rfl, fun h => absurd h (by omega)⟩
  have hc8 := HC.out 8 (by omega)
  cases h46 : (f 8 == 46)
  · have HT : Hid (TSpec f (p + 8) false 8 0) := ⟨8, HS.out, by simp; simp at h46; omega⟩
    go_enter Try.func19, Try.ntmps19
    go_wp2_with fail
    refine (optSec _ _).mono ?_
    rintro e w' ⟨rfl, rfl⟩
    go_wp2_with fail
    refine (fd8 _ _ _ _ f _ hx HR.out HC.out).mono ?_
    rintro e w1 ⟨rfl, q, rfl⟩
    go_wp2
    go_ret2
    exact ⟨⟨_, rfl⟩, _, p, 8, 0, rfl, HT.out, by omega, fun h => rfl⟩
  · have H46 : Hid (f 8 = 46) := (show f 8 = 46 by simpa using h46)
    go_enter Try.func19, Try.ntmps19
    go_wp2_with fail
    refine (optSec _ _).mono ?_
    rintro e w' ⟨rfl, rfl⟩
    go_wp2_with fail
    refine (fd8 _ _ _ _ f _ hx HR.out HC.out).mono ?_
    rintro e w1 ⟨rfl, q, rfl⟩
    go_wp2
    go_loop [7] (fun i => ∃ j : Nat, 1 ≤ j ∧ j ≤ p ∧ i = .int .i64 j ∧ Hid (∀ i, 9 ≤ i → i < 8 + j → dig (f i) = true)) (fun i => p - (intOf i).toNat)
    case atStart => exact ⟨1, by omega, by omega, rfl, fun i h1 h2 => absurd h2 (by omega)⟩
    case round =>
      obtain ⟨j, hj1, hjp, rfl, hdj⟩ := hrel
      by_cases hlt : j < p
      · have hcj : w'.cell? ⟨b, off + 8 + j, none⟩ = some (.int .u8 (f (8 + j))) := by rw [show off + 8 + j = off + (8 + j) by omega]; exact HC.out (8 + j) (by omega)
        cases hdk : dig (f (8 + j))
        · have HRun : Hid (Run f (p + 8) 9 (8 + j)) := ⟨by omega, by omega, hdj.out, .inr hdk⟩
          by_cases h1 : j = 1
          · subst h1
            go_wp2_with (first | (go_at_call 24; refine (isDigit _ _).mono ?_; rintro e w' ⟨rfl, rfl⟩))
            go_ret2
            exact ⟨⟨_, rfl⟩, _, p, 8, 15, rfl, ⟨8, HS.out, .inl ⟨rfl, by omega, H46.out, 9, HRun.out, .inl ⟨rfl, rfl, rfl⟩⟩⟩, by omega, fun h => rfl⟩
          · have e1 : ((j : Int) == 1) = false := by simp; omega
            go_wp2_with (first | (go_at_call 24; refine (isDigit _ _).mono ?_; rintro e w' ⟨rfl, rfl⟩))
            go_ret2
            exact ⟨⟨_, rfl⟩, _, p - j, 8 + j, 0, rfl, ⟨8, HS.out, .inl ⟨rfl, by omega, H46.out, 8 + j, HRun.out, .inr ⟨by omega, rfl, rfl⟩⟩⟩, by omega, fun h => by rw [← Nat.add_assoc]⟩
        · go_wp2_with (first | (go_at_call 24; refine (isDigit _ _).mono ?_; rintro e w' ⟨rfl, rfl⟩))
          go_round
          case rel => exact ⟨j + 1, by omega, by omega, by go_num, run_snoc hdj.out hdk⟩
          case measure => simp [intOf]; omega
      · obtain rfl : j = p := by omega
        have HRun : Hid (Run f (j + 8) 9 (8 + j)) := ⟨by omega, by omega, hdj.out, .inl (by omega)⟩
        have hd1 : decide ((j : Int) < (j : Int)) = false := by simp
        clear hlt
        by_cases h1 : j = 1
        · subst h1
          go_wp2
          go_ret2
          exact ⟨⟨_, rfl⟩, _, 1, 8, 15, rfl, ⟨8, HS.out, .inl ⟨rfl, by omega, H46.out, 9, HRun.out, .inl ⟨rfl, rfl, rfl⟩⟩⟩, by omega, fun h => rfl⟩
        · have e1 : ((j : Int) == 1) = false := by simp; omega
          go_wp2
          go_ret2
          exact ⟨⟨_, rfl⟩, _, 0, 8 + j, 0, rfl, ⟨8, HS.out, .inl ⟨rfl, by omega, H46.out, 8 + j, HRun.out, .inr ⟨by omega, rfl, rfl⟩⟩⟩, by omega, fun h => absurd h (by omega)⟩

set_option maxHeartbeats 2000000 in
theorem pt_full_new (b off p : Nat) (f : Nat → Int) (v : Int) (w : World) (hx : p + 8 ≤ 1048576) (hr : ∀ i, 0 ≤ f i ∧ f i ≤ 255) (hc : ∀ i, i < p + 8 → w.cell? ⟨b, off + i, none⟩ = some (.int .u8 (f i)))
    (hv : 2 ≤ v) (h8 : pre f (p + 8) 8 = true) :
    Calls Try.prog 19 #[.slice (some ⟨b, off, none⟩) (p + 8) (p + 8), .int .u8 v] w (Left b off (p + 8) f true w) := by
  have HC : Hid (∀ i, i < p + 8 → w.cell? ⟨b, off + i, none⟩ = some (.int .u8 (f i))) := hc
  have HR : Hid (∀ i, 0 ≤ f i ∧ f i ≤ 255) := hr
  have HS : Hid (Scan f (p + 8) 8) := scan8 h8
  obtain ⟨h5, h58⟩ := pre_58 h8
  have h58' : (f 5 != 58) = false := by simpa [bne] using h58
  have hc5 := hc 5 (by omega)
  have hne : ((((p + 8 : Nat) : Int)) == 5) = false := by simp; omega
  have hne' : ((p : Int) + 8 == 5) = false := by simp; omega
  clear hc hr
  by_cases hp : p = 0
  · subst hp
    go_enter Try.func19, Try.ntmps19
    go_wp2_with fail
    refine (optSec _ _).mono ?_
    rintro e w' ⟨rfl, rfl⟩
    go_wp2_with fail
    refine (fd5 _ _ _ _ f _ hx HR.out HC.out).mono ?_
    rintro e w1 ⟨rfl, q, rfl⟩
    go_wp2_with fail
    refine (fd8 _ _ _ _ f _ hx HR.out (cells_drewN HC.out _)).mono ?_
    rintro e w2 ⟨rfl, q2, rfl⟩
    go_wp2
    go_ret2
    exact ⟨⟨_, rfl⟩, _, 0, 8, 0, rfl, ⟨8, HS.out, by simp⟩, rfl, fun h => absurd h (by omega)⟩
  have hc8 := HC.out 8 (by omega)
  cases h46 : (f 8 == 46)
  · have HT : Hid (TSpec f (p + 8) true 8 0) := ⟨8, HS.out, by simp; simp at h46; omega⟩
    go_enter Try.func19, Try.ntmps19
    go_wp2_with fail
    refine (optSec _ _).mono ?_
    rintro e w' ⟨rfl, rfl⟩
    go_wp2_with fail
    refine (fd5 _ _ _ _ f _ hx HR.out HC.out).mono ?_
    rintro e w1 ⟨rfl, q, rfl⟩
    go_wp2_with fail
    refine (fd8 _ _ _ _ f _ hx HR.out (cells_drewN HC.out _)).mono ?_
    rintro e w2 ⟨rfl, q2, rfl⟩
    go_wp2
    go_ret2
    exact ⟨⟨_, rfl⟩, _, p, 8, 0, rfl, HT.out, by omega, fun h => rfl⟩
  · have H46 : Hid (f 8 = 46) := (show f 8 = 46 by simpa using h46)
    go_enter Try.func19, Try.ntmps19
    go_wp2_with fail
    refine (optSec _ _).mono ?_
    rintro e w' ⟨rfl, rfl⟩
    go_wp2_with fail
    refine (fd5 _ _ _ _ f _ hx HR.out HC.out).mono ?_
    rintro e w1 ⟨rfl, q, rfl⟩
    go_wp2_with fail
    refine (fd8 _ _ _ _ f _ hx HR.out (cells_drewN HC.out _)).mono ?_
    rintro e w2 ⟨rfl, q2, rfl⟩
    go_wp2
    go_loop [7] (fun i => ∃ j : Nat, 1 ≤ j ∧ j ≤ p ∧ i = .int .i64 j ∧ Hid (∀ i, 9 ≤ i → i < 8 + j → dig (f i) = true)) (fun i => p - (intOf i).toNat)
    case atStart => exact ⟨1, by omega, by omega, rfl, fun i h1 h2 => absurd h2 (by omega)⟩
    case round =>
      obtain ⟨j, hj1, hjp, rfl, hdj⟩ := hrel
      by_cases hlt : j < p
      · have hcj : w'.cell? ⟨b, off + 8 + j, none⟩ = some (.int .u8 (f (8 + j))) := by rw [show off + 8 + j = off + (8 + j) by omega]; exact HC.out (8 + j) (by omega)
        cases hdk : dig (f (8 + j))
        · have HRun : Hid (Run f (p + 8) 9 (8 + j)) := ⟨by omega, by omega, hdj.out, .inr hdk⟩
          by_cases h1 : j = 1
          · subst h1
            go_wp2_with (first | (go_at_call 24; refine (isDigit _ _).mono ?_; rintro e w' ⟨rfl, rfl⟩))
            go_ret2
            exact ⟨⟨_, rfl⟩, _, p, 8, 15, rfl, ⟨8, HS.out, .inl ⟨rfl, by omega, H46.out, 9, HRun.out, .inl ⟨rfl, rfl, rfl⟩⟩⟩, by omega, fun h => rfl⟩
          · have e1 : ((j : Int) == 1) = false := by simp; omega
            go_wp2_with (first | (go_at_call 24; refine (isDigit _ _).mono ?_; rintro e w' ⟨rfl, rfl⟩))
            go_ret2
            exact ⟨⟨_, rfl⟩, _, p - j, 8 + j, 0, rfl, ⟨8, HS.out, .inl ⟨rfl, by omega, H46.out, 8 + j, HRun.out, .inr ⟨by omega, rfl, rfl⟩⟩⟩, by omega, fun h => by rw [← Nat.add_assoc]⟩
        · go_wp2_with (first | (go_at_call 24; refine (isDigit _ _).mono ?_; rintro e w' ⟨rfl, rfl⟩))
          go_round
          case rel => exact ⟨j + 1, by omega, by omega, by go_num, run_snoc hdj.out hdk⟩
          case measure => simp [intOf]; omega
      · obtain rfl : j = p := by omega
        have HRun : Hid (Run f (j + 8) 9 (8 + j)) := ⟨by omega, by omega, hdj.out, .inl (by omega)⟩
        have hd1 : decide ((j : Int) < (j : Int)) = false := by simp
        clear hlt
        by_cases h1 : j = 1
        · subst h1
          go_wp2
          go_ret2
          exact ⟨⟨_, rfl⟩, _, 1, 8, 15, rfl, ⟨8, HS.out, .inl ⟨rfl, by omega, H46.out, 9, HRun.out, .inl ⟨rfl, rfl, rfl⟩⟩⟩, by omega, fun h => rfl⟩
        · have e1 : ((j : Int) == 1) = false := by simp; omega
          go_wp2
          go_ret2
          exact ⟨⟨_, rfl⟩, _, 0, 8 + j, 0, rfl, ⟨8, HS.out, .inl ⟨rfl, by omega, H46.out, 8 + j, HRun.out, .inr ⟨by omega, rfl, rfl⟩⟩⟩, by omega, fun h => absurd h (by omega)⟩
end Go.Proofs.Qxb6604205a.partialT
