import Derived.Test.Qxb6604205aFixed
import Derived.Test.Qxb6604205aPlainT
namespace Go.Proofs.Qxb6604205a.timeModel
open Go.ChangeShapes Go.WideShapes Go.ChangeAt Go.RowKit
open Go.Proofs.Qxb6604205a.plain Go.Proofs.Qxb6604205a.short Go.Proofs.Qxb6604205a.fixed
set_option linter.unusedVariables false

theorem byteOK (i : Nat) (x : Int) (w : World) : Calls Try.prog 20 #[.int .i64 (i : Int), .int .u8 x] w fun e w' => e = .returned (.bool (okTB i x)) ∧ w' = w := by
  by_cases h2 : i = 2
  · subst h2
    have e : okTB 2 x = (x == 58) := rfl
    rw [e]; clear e
    go_enter Try.func20, Try.ntmps20
    go_wp2
    go_ret
    exact ⟨rfl, rfl⟩
  by_cases h5 : i = 5
  · subst h5
    have e : okTB 5 x = (x == 58) := rfl
    rw [e]; clear e h2
    go_enter Try.func20, Try.ntmps20
    go_wp2
    go_ret
    exact ⟨rfl, rfl⟩
  have e : okTB i x = dig x := by unfold okTB; rw [if_neg (by omega)]
  rw [e]; clear e
  have e2 : ((i : Int) == 2) = false := by simp; omega
  have e5 : ((i : Int) == 5) = false := by simp; omega
  go_enter Try.func20, Try.ntmps20
  go_wp2_with (first | (go_at_call 18; refine (zzDigit _ _).mono ?_; rintro e w' ⟨rfl, rfl⟩))
  go_ret
  exact ⟨rfl, rfl⟩

theorem okT_snoc {f : Nat → Int} {k : Nat} (h : ∀ j, j < k → okT f j = true) (h' : okTB k (f k) = true) : ∀ j, j < k + 1 → okT f j = true := by
  intro j hj
  by_cases e : j = k
  · rw [e]; exact h'
  · exact h j (by omega)
theorem run_snoc {f : Nat → Int} {s k : Nat} (h : ∀ j, s ≤ j → j < k → dig (f j) = true) (h' : dig (f k) = true) : ∀ j, s ≤ j → j < k + 1 → dig (f j) = true := by
  intro j h1 hj
  by_cases e : j = k
  · rw [e]; exact h'
  · exact h j h1 (by omega)

set_option maxHeartbeats 2000000 in
theorem tm (b off n c : Nat) (f : Nat → Int) (nw : Bool) (w : World) (hx : n ≤ 1048576) (hr : ∀ i, 0 ≤ f i ∧ f i ≤ 255)
    (hc : ∀ i, i < n → w.cell? ⟨b, off + i, none⟩ = some (.int .u8 (f i))) :
    Calls Try.prog 12 #[.slice (some ⟨b, off, none⟩) n c, .bool nw] w fun e w' => w' = w ∧ ∃ (k : Nat) (r : Int), e = .returned (.tuple #[.int .i64 (k : Int), .int .u8 r]) ∧ TSpec f n nw k r := by
  go_enter Try.func12, Try.ntmps12
  go_wp2
  go_loop [6] (fun i => ∃ m : Nat, m ≤ 8 ∧ m ≤ n ∧ i = .int .i64 m ∧ Hid (∀ j, j < m → okT f j = true)) (fun i => 8 - (intOf i).toNat)
  case atStart => exact ⟨0, Nat.zero_le _, Nat.zero_le _, rfl, fun j hj => absurd hj (Nat.not_lt_zero _)⟩
  case round =>
    obtain ⟨m, hm8, hmn, rfl, hd⟩ := hrel
    by_cases hlt : m < 8
    · by_cases hlt2 : m < n
      · have hck := hc m hlt2
        have hrk := hr m
        cases hok : okTB m (f m)
        · have HS : Hid (Scan f n m) := ⟨hm8, hmn, hd.out, .inr (.inr hok)⟩
          cases nw
          · go_wp2_with (first | (go_at_call 20; refine (byteOK _ _ _).mono ?_; rintro e w' ⟨rfl, rfl⟩))
            go_ret2
            exact ⟨rfl, 0, 11, rfl, m, HS.out, by simp; omega⟩
          by_cases h5 : m = 5
          · subst h5
            have hc5 := hc 5 hlt2
            clear hc hr
            cases h46 : (f 5 == 46)
            · go_wp2_with (first | (go_at_call 20; refine (byteOK _ _ _).mono ?_; rintro e w' ⟨rfl, rfl⟩))
              go_ret2
              exact ⟨rfl, 5, 0, rfl, 5, HS.out, by simp; simp at h46; omega⟩
            · go_wp2_with (first | (go_at_call 20; refine (byteOK _ _ _).mono ?_; rintro e w' ⟨rfl, rfl⟩))
              go_ret2
              exact ⟨rfl, 0, 14, rfl, 5, HS.out, by simp; simp at h46; omega⟩
          · have e5 : ((m : Int) == 5) = false := by simp; omega
            go_wp2_with (first | (go_at_call 20; refine (byteOK _ _ _).mono ?_; rintro e w' ⟨rfl, rfl⟩))
            go_ret2
            exact ⟨rfl, 0, 12, rfl, m, HS.out, by simp; omega⟩
        · go_wp2_with (first | (go_at_call 20; refine (byteOK _ _ _).mono ?_; rintro e w' ⟨rfl, rfl⟩))
          go_round
          case rel => exact ⟨m + 1, by omega, by omega, by go_num, okT_snoc hd.out hok⟩
          case measure => simp [intOf]; omega
      · obtain rfl : m = n := by omega
        have HS : Hid (Scan f m m) := ⟨hm8, hmn, hd.out, .inr (.inl rfl)⟩
        clear hc hr hlt2
        have hd1 : decide ((m : Int) < (m : Int)) = false := by simp
        cases nw
        · go_wp2
          go_ret2
          exact ⟨rfl, 0, 11, rfl, m, HS.out, by simp; omega⟩
        by_cases h5 : m = 5
        · subst h5
          go_wp2
          go_ret2
          exact ⟨rfl, 5, 0, rfl, 5, HS.out, by simp⟩
        · have e5 : ((m : Int) == 5) = false := by simp; omega
          go_wp2
          go_ret2
          exact ⟨rfl, 0, 12, rfl, m, HS.out, by simp; omega⟩
    · obtain rfl : m = 8 := by omega
      have HS : Hid (Scan f n 8) := ⟨hm8, hmn, hd.out, .inl rfl⟩
      clear hlt
      by_cases h8 : 8 < n
      · have hc8 := hc 8 h8
        cases h46 : (f 8 == 46)
        · go_wp2
          go_ret2
          exact ⟨rfl, 8, 0, rfl, 8, HS.out, by simp; simp at h46; omega⟩
        · go_wp2
          go_loop [7] (fun i => ∃ j : Nat, 9 ≤ j ∧ j ≤ n ∧ i = .int .i64 j ∧ Hid (∀ i, 9 ≤ i → i < j → dig (f i) = true)) (fun i => n - (intOf i).toNat)
          case atStart => exact ⟨9, by omega, by omega, rfl, fun i h1 h2 => absurd h2 (by omega)⟩
          case round =>
            obtain ⟨j, hj9, hjn, rfl, hdj⟩ := hrel
            by_cases hlt : j < n
            · have hcj := hc j hlt
              cases hdk : dig (f j)
              · have HR : Hid (Run f n 9 j) := ⟨hj9, hjn, hdj.out, .inr hdk⟩
                by_cases h9 : j = 9
                · subst h9
                  go_wp2_with (first | (go_at_call 18; refine (zzDigit _ _).mono ?_; rintro e w' ⟨rfl, rfl⟩))
                  go_ret2
                  exact ⟨rfl, 8, 15, rfl, 8, HS.out, .inl ⟨rfl, h8, by simpa using h46, 9, HR.out, .inl ⟨rfl, rfl, rfl⟩⟩⟩
                · have e9 : ((j : Int) == 9) = false := by simp; omega
                  go_wp2_with (first | (go_at_call 18; refine (zzDigit _ _).mono ?_; rintro e w' ⟨rfl, rfl⟩))
                  go_ret2
                  exact ⟨rfl, j, 0, rfl, 8, HS.out, .inl ⟨rfl, h8, by simpa using h46, j, HR.out, .inr ⟨h9, rfl, rfl⟩⟩⟩
              · go_wp2_with (first | (go_at_call 18; refine (zzDigit _ _).mono ?_; rintro e w' ⟨rfl, rfl⟩))
                go_round
                case rel => exact ⟨j + 1, by omega, by omega, by go_num, run_snoc hdj.out hdk⟩
                case measure => simp [intOf]; omega
            · obtain rfl : j = n := by omega
              have HR : Hid (Run f j 9 j) := ⟨hj9, hjn, hdj.out, .inl rfl⟩
              clear hc hr hlt
              have hd1 : decide ((j : Int) < (j : Int)) = false := by simp
              by_cases h9 : j = 9
              · subst h9
                go_wp2
                go_ret2
                exact ⟨rfl, 8, 15, rfl, 8, HS.out, .inl ⟨rfl, h8, by simpa using h46, 9, HR.out, .inl ⟨rfl, rfl, rfl⟩⟩⟩
              · have e9 : ((j : Int) == 9) = false := by simp; omega
                go_wp2
                go_ret2
                exact ⟨rfl, j, 0, rfl, 8, HS.out, .inl ⟨rfl, h8, by simpa using h46, j, HR.out, .inr ⟨h9, rfl, rfl⟩⟩⟩
      · obtain rfl : n = 8 := by omega
        go_wp2
        go_ret2
        exact ⟨rfl, 8, 0, rfl, 8, HS.out, by simp⟩
end Go.Proofs.Qxb6604205a.timeModel
