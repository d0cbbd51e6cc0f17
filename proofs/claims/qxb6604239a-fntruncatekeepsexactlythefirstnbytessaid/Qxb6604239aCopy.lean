import Derived.Test.Qxb6604239aEsc
import Derived.Deep.OwnRows
namespace Go.Proofs.Qxb6604239a.copy
open Go.ChangeShapes Go.WideShapes Go.ChangeAt Go.RowKit
open Go.Proofs.Qxb6604239a.esc
set_option linter.unusedVariables false

theorem hnil (w : World) (a : Option Addr) (n c n' c' : Nat) : (binOp .eql 23 (.slice a n c) (.slice none n' c')).run Try.prog w = .ok (.bool a.isNone) w := Lib.run_eql_slice_nil w _ _ a n c n' c' Try.underlying23
theorem hmk (n : Nat) (hn : n ≤ 1048576) (w : World) :
    (Instr.makeSlice 23 (.int .i64 (n : Int)) (.int .i64 (n : Int))).run Try.prog w = .ok (.slice (some ⟨w.heap.size, 0, none⟩) n n) (w.alloc (.cells (madeCells #[.int .u8 0] n) 5)) :=
  run_make_row' 23 5 (.int .u8 0) 1 Try.underlying23 info5 rfl .i64 .i64 n (by omega) (by omega) w

theorem copy_nil (w : World) : Calls Try.prog 11 #[.slice none 0 0] w fun e w' => e = .returned (.slice none 0 0) ∧ w' = w := by
  have h1 := hnil
  go_enter Try.func11, Try.ntmps11
  go_wp2
  go_ret
  exact ⟨rfl, rfl⟩

theorem add_none (x : Addr) {v : Value} {w : World} (h : w.cell? (x.add 0) = some v) : ∃ b off, x = ⟨b, off, none⟩ := by
  obtain ⟨b, off, sp⟩ := x
  have : sp = none := by simpa [Addr.add] using World.cell?_spot h
  exact ⟨b, off, by rw [this]⟩

/-- What zzCopyBytes hands back of n bytes f. -/
def Copied (n : Nat) (f : Nat → Int) (w : World) (e : Ending) (w' : World) : Prop :=
  e = .returned (.slice (some ⟨w.heap.size, 0, none⟩) n n) ∧ w'.rowIs w.heap.size 5 n (fun i => .int .u8 (f i)) ∧ Below w.heap.size w w' ∧ w'.heap.size = w.heap.size + 1

theorem copy_zero (x : Addr) (c : Nat) (f : Nat → Int) (w : World) : Calls Try.prog 11 #[.slice (some x) 0 c] w (Copied 0 f w) := by
  have h1 := hnil
  have h2 := hmk 0 (by omega)
  simp only [Int.natCast_zero] at h2
  go_enter Try.func11, Try.ntmps11
  go_wp2
  go_loop [4] (fun i => i = .int .i64 0) (fun _ => 0)
  case atStart => exact rfl
  case round =>
    subst hrel
    go_wp2
    go_ret
    exact ⟨rfl, ⟨_, heap_alloc_new _ _, by simp [size_madeCells], fun i hi => absurd hi (by omega)⟩, (Below.refl _ _).alloc (Nat.le_refl _) _, by simp⟩

set_option maxHeartbeats 400000 in
theorem copy_some (b off n c : Nat) (f : Nat → Int) (w : World) (hn : n ≤ 1048576) (hc : ∀ i, i < n → w.cell? ⟨b, off + i, none⟩ = some (.int .u8 (f i))) :
    Calls Try.prog 11 #[.slice (some ⟨b, off, none⟩) n c] w (Copied n f w) := by
  have h1 := hnil
  have h2 := hmk n hn
  have HC : Hid (∀ i, i < n → w.cell? ⟨b, off + i, none⟩ = some (.int .u8 (f i))) := hc
  clear hc
  go_enter Try.func11, Try.ntmps11
  go_wp2
  go_loopw [4] (fun i wr => ∃ k : Nat, k ≤ n ∧ i = .int .i64 k ∧ Hid (wr.rowIs w.heap.size 5 n (fun j => if j < k then .int .u8 (f j) else .int .u8 0)) ∧ Hid (Below w.heap.size w wr) ∧ Hid (wr.heap.size = w.heap.size + 1)) (fun i _ => n - (intOf i).toNat)
  case atStart =>
    refine ⟨0, Nat.zero_le _, rfl, ?_, (Below.refl _ _).alloc (Nat.le_refl _) _, (show _ = _ by simp)⟩
    exact (World.rowIs_made w (.int .u8 0) n 5).congr (fun i _ => by simp)
  case round =>
    obtain ⟨k, hk, rfl, hrow, hb, hsz⟩ := hrel
    by_cases hlt : k < n
    · have hck := cell_later hb.out (HC.out k hlt)
      have hc2 : wr.cell? ⟨w.heap.size, k, none⟩ = some (.int .u8 0) := by have := hrow.out.cell hlt; simpa using this
      have hf2 : wr.frozen? ⟨w.heap.size, k, none⟩ = false := hrow.out.frozen k
      have hi : (k : Int) < (n : Int) := by omega
      go_wp2
      go_roundw
      case rel =>
        refine ⟨k + 1, hlt, by go_num, ?_, hb.out.setCell (Nat.le_refl _) _, (show _ = _ by simpa using hsz.out)⟩
        refine (hrow.out.set k (.int .u8 (f k))).congr (fun j hj => ?_)
        by_cases e1 : j = k
        · simp [e1]
        · by_cases e2 : j < k
          · simp [e1, e2, show j < k + 1 by omega]
          · simp [e1, e2, show ¬ j < k + 1 by omega]
      case measure => simp [intOf]; omega
    · obtain rfl : k = n := by omega
      go_wp2
      go_ret
      exact ⟨rfl, hrow.out.congr (fun j hj => by simp [hj]), hb.out, hsz.out⟩

theorem copy_at (x : Addr) (n c : Nat) (f : Nat → Int) (w : World) (hn : n ≤ 1048576) (hc : ∀ i, i < n → w.cell? (x.add i) = some (.int .u8 (f i))) :
    Calls Try.prog 11 #[.slice (some x) n c] w (Copied n f w) := by
  by_cases h : n = 0
  · subst h
    exact copy_zero x c f w
  · obtain ⟨b, off, rfl⟩ := add_none x (hc 0 (by omega))
    exact copy_some b off n c f w hn (fun i hi => by rw [← add_plain]; exact hc i hi)

/-! ### zzEqual -/
theorem eq_empty (a a' : Option Addr) (c c' : Nat) (w : World) :
    Calls Try.prog 14 #[.slice a 0 c, .slice a' 0 c'] w fun e w' => e = .returned (.bool true) ∧ w' = w := by
  go_enter Try.func14, Try.ntmps14
  go_wp2
  go_loop [5] (fun i => i = .int .i64 0) (fun _ => 0)
  case atStart => exact rfl
  case round =>
    subst hrel
    go_wp2
    go_ret
    exact ⟨rfl, rfl⟩

theorem drewN_cell {w wr : World} {p : Addr} {v : Value} (h : ∃ q, wr = w.drewN q) (hc : w.cell? p = some v) : wr.cell? p = some v := by
  obtain ⟨q, rfl⟩ := h
  simpa using hc
theorem drewN_more {w wr : World} (h : ∃ q, wr = w.drewN q) (n : Nat) : ∃ q, wr.drewN n = w.drewN q := by
  obtain ⟨q, rfl⟩ := h
  exact ⟨q + n, by rw [World.drewN_drewN]⟩

set_option maxHeartbeats 400000 in
theorem eq_some (b off b' off' n c c' : Nat) (f : Nat → Int) (w : World) (hx : n ≤ 1048576) (hc : ∀ i, i < n → w.cell? ⟨b, off + i, none⟩ = some (.int .u8 (f i))) (hc' : ∀ i, i < n → w.cell? ⟨b', off' + i, none⟩ = some (.int .u8 (f i))) :
    Calls Try.prog 14 #[.slice (some ⟨b, off, none⟩) n c, .slice (some ⟨b', off', none⟩) n c'] w fun e w' => e = .returned (.bool true) ∧ ∃ q, w' = w.drewN q := by
  go_enter Try.func14, Try.ntmps14
  go_wp2
  go_loopw [5] (fun i wr => ∃ k : Nat, k ≤ n ∧ i = .int .i64 k ∧ Hid (∃ q, wr = w.drewN q)) (fun i _ => n - (intOf i).toNat)
  case atStart => exact ⟨0, Nat.zero_le _, rfl, ⟨0, rfl⟩⟩
  case round =>
    obtain ⟨k, hk, rfl, hw⟩ := hrel
    by_cases hlt : k < n
    · have hck := drewN_cell hw.out (hc k hlt)
      have hck' := drewN_cell hw.out (hc' k hlt)
      clear hc hc'
      have hi : (k : Int) < (n : Int) := by omega
      go_wp2
      go_quiet (fail)
      go_wp2
      go_roundw
      case rel => exact ⟨k + 1, hlt, by go_num, drewN_more hw.out _⟩
      case measure => simp [intOf]; omega
    · obtain rfl : k = n := by omega
      go_wp2
      go_ret
      exact ⟨rfl, hw.out⟩

/-- A slice that reads as the n bytes f: at no byte nothing is asked of its address. -/
def Reads (w : World) (a : Option Addr) (n : Nat) (f : Nat → Int) : Prop := n = 0 ∨ ∃ b off, a = some ⟨b, off, none⟩ ∧ ∀ i, i < n → w.cell? ⟨b, off + i, none⟩ = some (.int .u8 (f i))

theorem eq_yes (a a' : Option Addr) (n c c' : Nat) (f : Nat → Int) (w : World) (hx : n ≤ 1048576) (h : Reads w a n f) (h' : Reads w a' n f) :
    Calls Try.prog 14 #[.slice a n c, .slice a' n c'] w fun e w' => e = .returned (.bool true) ∧ ∃ q, w' = w.drewN q := by
  by_cases h0 : n = 0
  · subst h0
    exact (eq_empty a a' c c' w).mono fun e w' ⟨h1, h2⟩ => ⟨h1, 0, h2⟩
  · obtain ⟨b, off, rfl, hc⟩ := h.resolve_left h0
    obtain ⟨b', off', rfl, hc'⟩ := h'.resolve_left h0
    exact eq_some b off b' off' n c c' f w hx hc hc'
end Go.Proofs.Qxb6604239a.copy
