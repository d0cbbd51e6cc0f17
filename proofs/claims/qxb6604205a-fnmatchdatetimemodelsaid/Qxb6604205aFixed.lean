import Derived.Test.Qxb6604205aShort
namespace Go.Proofs.Qxb6604205a.fixed
open Go.ChangeShapes Go.WideShapes Go.ChangeAt Go.RowKit
open Go.Proofs.Qxb6604205a.plain Go.Proofs.Qxb6604205a.short

/-- The shape's byte at place k, as a number. -/
def chr (sh : ByteArray) (k : Nat) : Int := if h : k < sh.size then (sh[k].toNat : Int) else 0
theorem chr_at {sh : ByteArray} {k : Nat} (h : k < sh.size) : chr sh k = (sh[k].toNat : Int) := by unfold chr; simp [h]
/-- Does the byte at place k fit the shape there? -/
def okS (f : Nat → Int) (sh : ByteArray) (k : Nat) : Bool := if chr sh k = 100 then dig (f k) else f k == chr sh k

theorem okS_d {f : Nat → Int} {sh : ByteArray} {k : Nat} (h : k < sh.size) (h' : sh[k].toNat = 100) : okS f sh k = dig (f k) := by
  unfold okS; rw [chr_at h, h']; rfl
theorem okS_n {f : Nat → Int} {sh : ByteArray} {k : Nat} (h : k < sh.size) (h' : ¬ sh[k].toNat = 100) : okS f sh k = (f k == (sh[k].toNat : Int)) := by
  unfold okS; rw [chr_at h, if_neg (by omega)]
theorem okS_snoc {f : Nat → Int} {sh : ByteArray} {k : Nat} (h : ∀ j, j < k → okS f sh j = true) (h' : okS f sh k = true) : ∀ j, j < k + 1 → okS f sh j = true := by
  intro j hj
  by_cases e : j = k
  · rw [e]; exact h'
  · exact h j (by omega)
theorem drewN_cell {w wr : World} {p : Addr} {v : Value} (h : ∃ q, wr = w.drewN q) (hc : w.cell? p = some v) : wr.cell? p = some v := by
  obtain ⟨q, rfl⟩ := h
  simpa using hc
theorem drewN_more {w wr : World} (h : ∃ q, wr = w.drewN q) (n : Nat) : ∃ q, wr.drewN n = w.drewN q := by
  obtain ⟨q, rfl⟩ := h
  exact ⟨q + n, by rw [World.drewN_drewN]⟩

set_option maxHeartbeats 400000 in
theorem fd_short (a : Option Addr) (n c : Nat) (sh : ByteArray) (w : World) (hn : n < sh.size) :
    Calls Try.prog 26 #[.slice a n c, .string sh] w fun e w' => e = .returned (.bool false) ∧ w' = w := by
  go_enter Try.func26, Try.ntmps26
  go_wp2
  go_ret
  exact ⟨rfl, rfl⟩

set_option maxHeartbeats 400000 in
theorem fd (b off n c : Nat) (f : Nat → Int) (sh : ByteArray) (w : World) (hn : sh.size ≤ n) (hx : n ≤ 1048576) (hr : ∀ i, 0 ≤ f i ∧ f i ≤ 255)
    (hc : ∀ i, i < n → w.cell? ⟨b, off + i, none⟩ = some (.int .u8 (f i))) :
    Calls Try.prog 26 #[.slice (some ⟨b, off, none⟩) n c, .string sh] w fun e w' => (∃ q, w' = w.drewN q) ∧
      ((e = .returned (.bool true) ∧ ∀ i, i < sh.size → okS f sh i = true) ∨ (e = .returned (.bool false) ∧ ∃ i, i < sh.size ∧ okS f sh i = false)) := by
  go_enter Try.func26, Try.ntmps26
  go_wp2
  go_loopw [5] (fun i wr => ∃ k : Nat, k ≤ sh.size ∧ i = .int .i64 k ∧ Hid (∃ q, wr = w.drewN q) ∧ Hid (∀ j, j < k → okS f sh j = true)) (fun i _ => sh.size - (intOf i).toNat)
  case atStart => exact ⟨0, Nat.zero_le _, rfl, ⟨0, rfl⟩, fun j hj => absurd hj (Nat.not_lt_zero _)⟩
  case round =>
    obtain ⟨k, hk, rfl, hw, hd⟩ := hrel
    by_cases hlt : k < sh.size
    · have hck := drewN_cell hw.out (hc k (by omega))
      clear hc
      have hrk := hr k
      have hi : (k : Int) < (n : Int) := by omega
      have HX : Hid (chr sh k = (sh[k].toNat : Int)) := chr_at hlt
      by_cases h100 : sh[k].toNat = 100
      · have e1 : ((sh[k].toNat : Int) == 100) = true := by simp [h100]
        have e2 : ((sh[k].toNat : Int) != 100) = false := by simp [h100]
        have HO : Hid (okS f sh k = dig (f k)) := okS_d hlt h100
        clear h100
        cases hdk : dig (f k)
        · go_wp2
          go_quiet ((go_at_call 24; exact Calls.quiet_of_same (isDigit _ _)))
          go_wp2
          go_ret
          exact ⟨drewN_more hw.out _, .inr ⟨rfl, k, hlt, by rw [HO.out]; exact hdk⟩⟩
        · go_wp2
          go_quiet ((go_at_call 24; exact Calls.quiet_of_same (isDigit _ _)))
          go_wp2
          go_roundw
          case rel => exact ⟨k + 1, hlt, by go_num, drewN_more hw.out _, okS_snoc hd.out (by rw [HO.out]; exact hdk)⟩
          case measure => simp [intOf]; omega
      · have e1 : ((sh[k].toNat : Int) == 100) = false := by simp; omega
        have e2 : ((sh[k].toNat : Int) != 100) = true := by simp; omega
        have HO : Hid (okS f sh k = (f k == (sh[k].toNat : Int))) := okS_n hlt h100
        clear h100
        cases hdk : (f k == (sh[k].toNat : Int))
        · have hdn : (f k != (sh[k].toNat : Int)) = true := by simp [bne, hdk]
          go_wp2
          go_quiet (fail)
          go_wp2
          go_ret
          exact ⟨drewN_more hw.out _, .inr ⟨rfl, k, hlt, by rw [HO.out]; exact hdk⟩⟩
        · have hdn : (f k != (sh[k].toNat : Int)) = false := by simp [bne, hdk]
          go_wp2
          go_quiet (fail)
          go_wp2
          go_roundw
          case rel => exact ⟨k + 1, hlt, by go_num, drewN_more hw.out _, okS_snoc hd.out (by rw [HO.out]; exact hdk)⟩
          case measure => simp [intOf]; omega
    · obtain rfl : k = sh.size := by omega
      go_wp2
      go_ret
      exact ⟨hw.out, .inl ⟨rfl, hd.out⟩⟩
end Go.Proofs.Qxb6604205a.fixed
