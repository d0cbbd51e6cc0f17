import Derived.Test.Qxb6604205aMatchB
namespace Go.Proofs.Qxb6604205a.matchT
open Go.ChangeShapes Go.WideShapes Go.ChangeAt Go.RowKit
open Go.Proofs.Qxb6604205a.plain Go.Proofs.Qxb6604205a.short Go.Proofs.Qxb6604205a.fixed Go.Proofs.Qxb6604205a.timeModel Go.Proofs.Qxb6604205a.partialT
set_option linter.unusedVariables false

/-- What zzMatchModel returns. -/
def DoneM (f : Nat → Int) (n : Nat) (nw : Bool) (w : World) (e : Ending) (w' : World) : Prop :=
  w' = w ∧ ∃ x y : Int, e = .returned (.tuple #[.int .u8 x, .int .u8 y]) ∧ MRel f n nw x y
theorem DoneM.mk {f : Nat → Int} {n : Nat} {nw : Bool} {w : World} {x y : Int} (h : MRel f n nw x y) : DoneM f n nw w (.returned (.tuple #[.int .u8 x, .int .u8 y])) w := ⟨rfl, x, y, rfl, h⟩

set_option maxHeartbeats 1000000 in
theorem mm_time (b off n c : Nat) (f : Nat → Int) (nw : Bool) (w : World) (hx : n ≤ 1048576) (hr : ∀ i, 0 ≤ f i ∧ f i ≤ 255) (hc : ∀ i, i < n → w.cell? ⟨b, off + i, none⟩ = some (.int .u8 (f i)))
    (c1 : timeOnly f n = true) :
    Calls Try.prog 16 #[.slice (some ⟨b, off, none⟩) n c, .bool nw] w (DoneM f n nw w) := by
  have HC : Hid (∀ i, i < n → w.cell? ⟨b, off + i, none⟩ = some (.int .u8 (f i))) := hc
  have HR : Hid (∀ i, 0 ≤ f i ∧ f i ≤ 255) := hr
  have H1 : Hid (timeOnly f n = true) := c1
  clear hr
  by_cases h2 : n ≤ 2
  · clear c1 hc
    go_enter Try.func16, Try.ntmps16
    go_wp2_with fail
    refine (tm _ _ _ _ f _ _ hx HR.out HC.out).mono ?_
    rintro e w1 ⟨rfl, k, r, rfl, ht⟩
    have HT : Hid (TSpec f n nw k r) := ht
    have hkn := ht.le
    clear ht
    by_cases hr : r = 0
    · subst hr
      by_cases hk : k = n
      · subst hk
        have hkk : decide ((k : Int) < (k : Int)) = false := by simp
        go_wp2
        go_ret2
        exact DoneM.mk (by have := rel_time H1.out HT.out; rw [Nat.sub_self, tmR_0] at this; exact this)
      · have hk' : (k : Int) < (n : Int) := by omega
        go_wp2
        go_ret2
        exact DoneM.mk (by have := rel_time H1.out HT.out; rw [tmR_17 (by omega)] at this; exact this)
    · have hr' : (r == 0) = false := by simpa using hr
      go_wp2
      go_ret2
      exact DoneM.mk (by have := rel_time H1.out HT.out; rw [tmR_r hr] at this; exact this)
  · have hd : decide ((n : Int) ≤ 2) = false := decide_eq_false (by omega)
    have hd2 : (2 : Int) < (n : Int) := by omega
    have h58 : (f 2 == 58) = true := by unfold timeOnly at c1; simpa [h2] using c1
    have hc2 := hc 2 (by omega)
    clear c1 hc
    go_enter Try.func16, Try.ntmps16
    go_wp2_with fail
    refine (tm _ _ _ _ f _ _ hx HR.out HC.out).mono ?_
    rintro e w1 ⟨rfl, k, r, rfl, ht⟩
    have HT : Hid (TSpec f n nw k r) := ht
    have hkn := ht.le
    clear ht
    by_cases hr : r = 0
    · subst hr
      by_cases hk : k = n
      · subst hk
        have hkk : decide ((k : Int) < (k : Int)) = false := by simp
        go_wp2
        go_ret2
        exact DoneM.mk (by have := rel_time H1.out HT.out; rw [Nat.sub_self, tmR_0] at this; exact this)
      · have hk' : (k : Int) < (n : Int) := by omega
        go_wp2
        go_ret2
        exact DoneM.mk (by have := rel_time H1.out HT.out; rw [tmR_17 (by omega)] at this; exact this)
    · have hr' : (r == 0) = false := by simpa using hr
      go_wp2
      go_ret2
      exact DoneM.mk (by have := rel_time H1.out HT.out; rw [tmR_r hr] at this; exact this)

theorem okD_snoc {f : Nat → Int} {k : Nat} (h : ∀ j, j < k → okD f j = true) (h' : okDB k (f k) = true) : ∀ j, j < k + 1 → okD f j = true := by
  intro j hj
  by_cases e : j = k
  · rw [e]; exact h'
  · exact h j (by omega)

set_option maxHeartbeats 1000000 in
theorem mm_bad (b off n c : Nat) (f : Nat → Int) (nw : Bool) (w : World) (hx : n ≤ 1048576) (hr : ∀ i, 0 ≤ f i ∧ f i ≤ 255) (hc : ∀ i, i < n → w.cell? ⟨b, off + i, none⟩ = some (.int .u8 (f i)))
    (c1 : timeOnly f n = false) (c2 : preD f n = false) :
    Calls Try.prog 16 #[.slice (some ⟨b, off, none⟩) n c, .bool nw] w (DoneM f n nw w) := by
  have HM : Hid (MRel f n nw 0 9) := rel_bad c1 c2
  obtain ⟨h2, h58⟩ := not_time c1
  have hd : decide ((n : Int) ≤ 2) = false := decide_eq_false (by omega)
  have hd2 : (2 : Int) < (n : Int) := by omega
  have hc2 := hc 2 h2
  have C2 : Hid (preD f n = false) := c2
  clear hr c1 c2
  go_enter Try.func16, Try.ntmps16
  go_wp2
  go_loop [8] (fun i => ∃ k : Nat, k ≤ 10 ∧ i = .int .i64 k ∧ Hid (∀ j, j < k → okD f j = true) ∧ Hid (k ≤ n)) (fun i => 10 - (intOf i).toNat)
  case atStart => exact ⟨0, by omega, rfl, fun j hj => absurd hj (by omega), Nat.zero_le _⟩
  case round =>
    obtain ⟨k, hk, rfl, hdk, hkn⟩ := hrel
    by_cases h10 : k < 10
    · by_cases hn : k < n
      · have hdn : decide ((n : Int) ≤ (k : Int)) = false := decide_eq_false (by omega)
        have hck := hc k hn
        have hlt : (k : Int) < (n : Int) := by omega
        cases ho : okDB k (f k)
        · go_wp2_with (first | (go_at_call 22; refine (dateOK _ _ _).mono ?_; rintro e w' ⟨rfl, rfl⟩))
          go_ret2
          exact DoneM.mk HM.out
        · go_wp2_with (first | (go_at_call 22; refine (dateOK _ _ _).mono ?_; rintro e w' ⟨rfl, rfl⟩))
          go_round
          case rel => exact ⟨k + 1, by omega, by go_num, okD_snoc hdk.out ho, hn⟩
          case measure => simp [intOf]; omega
      · go_wp2
        go_ret2
        exact DoneM.mk HM.out
    · obtain rfl : k = 10 := by omega
      have := preD_mk hkn.out hdk.out
      rw [C2.out] at this
      cases this
end Go.Proofs.Qxb6604205a.matchT
