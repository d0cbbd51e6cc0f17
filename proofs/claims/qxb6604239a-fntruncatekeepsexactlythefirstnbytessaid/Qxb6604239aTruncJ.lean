import Derived.Test.Qxb6604239aTruncI
import Derived.OpenShut
import Derived.Deep.Slices
namespace Go.Proofs.Qxb6604239a.trunc
open Go.ChangeShapes Go.WideShapes Go.ChangeAt Go.RowKit
open Go.Proofs.Qxb6604239a.esc Go.Proofs.Qxb6604239a.copy
set_option linter.unusedVariables false

set_option maxHeartbeats 1000000 in
set_option maxRecDepth 20000 in
theorem law_early (a la : Option Addr) (N c m cl : Nat) (A : Nat → Option Addr) (L C : Nat → Nat) (n : Int) (w : World) (hN : N ≤ maxLen) (hm : m ≤ maxLen) (hL : ∀ j, j < N → L j ≤ maxLen) (hO : Outer w a N A L C)
    (h : n < 0 ∨ ¬ ((∀ j, j < N → L j = 65536) ∧ m ≤ 65536)) :
    Calls Try.prog 3 #[.slice a N c, .slice la m cl, .int .i64 n] w fun e w' => e = .returned (.bool true) ∧ Below w.heap.size w w' := by
  have HO : Hid (Outer w a N A L C) := hO
  have HL : Hid (∀ j, j < N → L j ≤ maxLen) := hL
  have HNM : Hid (N ≤ maxLen ∧ m ≤ maxLen) := ⟨hN, hm⟩
  have HH : Hid (n < 0 ∨ ¬ ((∀ j, j < N → L j = 65536) ∧ m ≤ 65536)) := h
  clear hO hL h
  unfold maxLen at hN hm
  go_enter Try.func3, Try.ntmps3
  go_wp2_with fail
  refine (bytesT _ _ _ _ _ _ _ A L C _ HNM.out.1 HNM.out.2 HL.out HO.out).mono ?_
  rintro e w0 ⟨⟨t, rfl⟩, rfl⟩
  cases t
  · go_wp2
    go_ret
    exact ⟨rfl, Below.refl _ _⟩
  go_wp2_with fail
  refine (piecesB _ _ _ _ _ _ A L C _ HNM.out.1 HNM.out.2 HL.out HO.out).mono ?_
  rintro e w0 ⟨⟨z, rfl, hz⟩, rfl⟩
  by_cases hz1 : 1048576 < z
  · clear hz
    go_wp2
    go_ret
    exact ⟨rfl, Below.refl _ _⟩
  clear hz
  go_wp2_with fail
  refine (wellF _ _ _ _ _ _ A L C _ HNM.out.1 HNM.out.2 HL.out HO.out).mono ?_
  rintro e w0 ⟨⟨t, rfl, ht⟩, rfl⟩
  cases t
  · clear ht
    go_wp2
    go_ret
    exact ⟨rfl, Below.refl _ _⟩
  · have hn : n < 0 := by
      rcases HH.out with h | h
      · exact h
      · exact absurd (ht.1 rfl) h
    clear ht
    go_wp2
    go_ret
    exact ⟨rfl, Below.refl _ _⟩

/-- WHAT THE WALK IS TOLD OF A SLICE OF BYTES THAT CAME IN. -/
def IsRow (w : World) (a : Option Addr) (len cap : Nat) (zs : List Int) : Prop :=
  (a = none ∧ len = 0 ∧ cap = 0) ∨ ∃ x, a = some x ∧ len ≤ cap ∧ cap ≤ maxLen ∧ ∀ i, i < len → w.cell? (x.add i) = some (.int .u8 (zs.getD i 0))
/-- .. AND OF A SLICE OF SUCH SLICES. -/
def IsRows (w : World) (a : Option Addr) (N c : Nat) : Prop :=
  (a = none ∧ N = 0 ∧ c = 0) ∨ ∃ x, a = some x ∧ N ≤ c ∧ c ≤ maxLen ∧ ∀ j, j < N → ∃ y : Option Addr × Nat × Nat × List Int, w.cell? (x.add j) = some (.slice y.1 y.2.1 y.2.2.1) ∧ IsRow w y.1 y.2.1 y.2.2.1 y.2.2.2

theorem isRow_max {w : World} {a : Option Addr} {len cap : Nat} {zs : List Int} (h : IsRow w a len cap zs) : len ≤ maxLen := by
  rcases h with ⟨_, h, _⟩ | ⟨_, _, h1, h2, _⟩
  · rw [h]; exact Nat.zero_le _
  · exact Nat.le_trans h1 h2
theorem isRows_max {w : World} {a : Option Addr} {len cap : Nat} (h : IsRows w a len cap) : len ≤ maxLen := by
  rcases h with ⟨_, h, _⟩ | ⟨_, _, h1, h2, _⟩
  · rw [h]; exact Nat.zero_le _
  · exact Nat.le_trans h1 h2

/-- All the bytes, end to end. -/
def flatF (N : Nat) (g : Nat → Nat → Int) (l : Nat → Int) (k : Nat) : Int := if k < N * 65536 then g (k / 65536) (k % 65536) else l (k - N * 65536)

theorem lawT (a la : Option Addr) (N c m cl : Nat) (z : List Int) (n : Int) (w : World) (hA : IsRows w a N c) (hB : IsRow w la m cl z) (hn : n ≤ 9223372036854775807) :
    Calls Try.prog 3 #[.slice a N c, .slice la m cl, .int .i64 n] w fun e w' => e = .returned (.bool true) ∧ Below w.heap.size w w' := by
  have hN := isRows_max hA
  have hm := isRow_max hB
  obtain ⟨y, hy⟩ : ∃ y : Nat → Option Addr × Nat × Nat × List Int, ∀ j, j < N → (∃ x, a = some x ∧ w.cell? (x.add j) = some (.slice (y j).1 (y j).2.1 (y j).2.2.1)) ∧ IsRow w (y j).1 (y j).2.1 (y j).2.2.1 (y j).2.2.2 := by
    rcases hA with ⟨_, h, _⟩ | ⟨x, e, _, _, h⟩
    · exact ⟨fun _ => default, fun j hj => by omega⟩
    · obtain ⟨y, hy⟩ := Go.Deep.choose_lt h
      exact ⟨y, fun j hj => ⟨⟨x, e, (hy j hj).1⟩, (hy j hj).2⟩⟩
  have hO : Outer w a N (fun j => (y j).1) (fun j => (y j).2.1) (fun j => (y j).2.2.1) := by
    by_cases h0 : N = 0
    · exact .inl h0
    · obtain ⟨x, e, hc⟩ := (hy 0 (by omega)).1
      obtain ⟨b, off, rfl⟩ := add_none x hc
      refine .inr ⟨b, off, e, fun j hj => ?_⟩
      obtain ⟨x', e', hc'⟩ := (hy j hj).1
      rw [e] at e'
      injection e' with e'
      rw [← e', add_plain] at hc'
      exact hc'
  have hL : ∀ j, j < N → (fun j => (y j).2.1) j ≤ maxLen := fun j hj => isRow_max (hy j hj).2
  by_cases hwf : (∀ j, j < N → (fun j => (y j).2.1) j = 65536) ∧ m ≤ 65536
  · by_cases hneg : n < 0
    · exact law_early a la N c m cl _ _ _ n w hN hm hL hO (.inl hneg)
    obtain ⟨nn, rfl⟩ : ∃ nn : Nat, n = nn := ⟨n.toNat, by omega⟩
    obtain ⟨hW1, hm2⟩ := hwf
    have hp : Pcs w a N 65536 (fun j i => (y j).2.2.2.getD i 0) := by
      rcases hO with h | ⟨b, off, e, hc⟩
      · exact .inl h
      · refine .inr ⟨b, off, e, fun j hj => ?_⟩
        have h1 := hc j hj
        have h2 := hW1 j hj
        simp only at h1 h2
        rcases (hy j hj).2 with ⟨_, h, _⟩ | ⟨x, e', _, _, h⟩
        · omega
        · rw [h2] at h h1
          obtain ⟨b', o', rfl⟩ := add_none x (h 0 (by omega))
          rw [e'] at h1
          exact ⟨b', o', _, h1, fun i hi => by have := h i hi; rw [add_plain] at this; exact this⟩
    have hnl : (a = none ∧ N = 0 ∧ c = 0) ∨ ∃ x, a = some x := by
      rcases hA with h | ⟨x, e, _⟩
      · exact .inl h
      · exact .inr ⟨x, e⟩
    have hs : Src w la m cl (fun i => z.getD i 0) := by
      rcases hB with h | ⟨x, e, _, _, h⟩
      · exact .inl h
      · exact .inr ⟨x, e, h⟩
    have hF1 : ∀ j, j < N → ∀ i, i < 65536 → flatF N (fun j i => (y j).2.2.2.getD i 0) (fun i => z.getD i 0) (j * 65536 + i) = (fun j i => (y j).2.2.2.getD i 0) j i := by
      intro j hj i hi
      unfold flatF
      rw [if_pos (by omega), show (j * 65536 + i) / 65536 = j by omega, show (j * 65536 + i) % 65536 = i by omega]
    have hF2 : ∀ i, i < m → flatF N (fun j i => (y j).2.2.2.getD i 0) (fun i => z.getD i 0) (N * 65536 + i) = (fun i => z.getD i 0) i := by
      intro i hi
      unfold flatF
      rw [if_neg (by omega), show N * 65536 + i - N * 65536 = i by omega]
    by_cases h1 : N * 65536 + m ≤ nn
    · exact law_all a la N c m cl 65536 (N * 65536 + m) _ _ _ _ _ _ nn w hN hm hn hL hO hW1 hm2 rfl hp hnl hs rfl hF1 hF2 h1
    by_cases h2 : nn / 65536 < N
    · exact law_full a la N c m cl 65536 (N * 65536 + m) _ _ _ _ _ _ nn w hN hm hn hL hO hW1 hm2 rfl hp hnl hs rfl hF1 hF2 (nn / 65536) (nn % 65536) (by omega) (by omega) h2
    · exact law_last a la N c m cl 65536 (N * 65536 + m) _ _ _ _ _ _ nn w hN hm hn hL hO hW1 hm2 rfl hp hnl hs rfl hF1 hF2 (nn - N * 65536) (by omega) (by omega)
  · exact law_early a la N c m cl _ _ _ n w hN hm hL hO (.inr hwf)
end Go.Proofs.Qxb6604239a.trunc
