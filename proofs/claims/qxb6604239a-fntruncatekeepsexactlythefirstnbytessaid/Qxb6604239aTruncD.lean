import Derived.Test.Qxb6604239aTruncC
import Derived.Lib.SliceRun
import Derived.Deep.Upon
namespace Go.Proofs.Qxb6604239a.trunc
open Go.ChangeShapes Go.WideShapes Go.ChangeAt Go.RowKit
open Go.Proofs.Qxb6604239a.esc Go.Proofs.Qxb6604239a.copy
set_option linter.unusedVariables false

set_option maxHeartbeats 400000 in
theorem lenT (S N c m c' : Nat) (fa la : Option Addr) (w : World) (hN : N ≤ 43690) (hm : m ≤ 1048576) (h0 : w.cell? ⟨S, 0, none⟩ = some (.slice fa N c)) (h1 : w.cell? ⟨S, 1, none⟩ = some (.slice la m c')) :
    Calls Try.prog 28 #[.pointer (some ⟨S, 0, none⟩)] w fun e w' => e = .returned (.int .i64 ((N : Int) * 65536 + (m : Int))) ∧ ∃ q, w' = w.drewN q := by
  go_enter Try.func28, Try.ntmps28
  go_wp2
  go_quiet (fail)
  go_wp2
  go_ret
  exact ⟨rfl, _, rfl⟩

/-- Nothing is dropped. -/
theorem tr_all (S N c m c' : Nat) (fa la : Option Addr) (n : Int) (w : World) (hN : N ≤ 43690) (hm : m ≤ 1048576) (h0 : w.cell? ⟨S, 0, none⟩ = some (.slice fa N c)) (h1 : w.cell? ⟨S, 1, none⟩ = some (.slice la m c'))
    (hn : (N : Int) * 65536 + (m : Int) ≤ n) :
    Calls Try.prog 24 #[.pointer (some ⟨S, 0, none⟩), .int .i64 n] w fun e w' => e = .returned (.tuple #[]) ∧ ∃ q, w' = w.drewN q := by
  go_enter Try.func24, Try.ntmps24
  go_wp2_with fail
  refine (lenT _ _ _ _ _ _ _ _ hN hm h0 h1).mono ?_
  rintro e w1 ⟨rfl, hq⟩
  have HQ : Hid (∃ q, w1 = w.drewN q) := hq
  clear hq
  go_wp2
  refine bodyPost_ret (results_none rfl _ _ _) rfl ?_
  exact ⟨rfl, HQ.out⟩

set_option maxHeartbeats 400000 in
/-- The cut lies in the last piece. -/
theorem tr_last (S N c m c' lb lo : Nat) (fa : Option Addr) (n r : Nat) (w : World) (hN : N ≤ 43690) (hm : m ≤ 65536) (hmc : m ≤ c') (h0 : w.cell? ⟨S, 0, none⟩ = some (.slice fa N c)) (h1 : w.cell? ⟨S, 1, none⟩ = some (.slice (some ⟨lb, lo, none⟩) m c'))
    (f1 : w.frozen? ⟨S, 1, none⟩ = false) (hn : n = N * 65536 + r) (hr : r < m) :
    Calls Try.prog 24 #[.pointer (some ⟨S, 0, none⟩), .int .i64 (n : Int)] w fun e w' => e = .returned (.tuple #[]) ∧ ∃ q, w' = (w.drewN q).setCell ⟨S, 1, none⟩ (.slice (some ⟨lb, lo, none⟩) r c') := by
  have t1 : decide ((N : Int) * 65536 + (m : Int) ≤ (n : Int)) = false := decide_eq_false (by omega)
  have t2 : (n : Int) / 65536 = (N : Int) := by omega
  have t3 : (n : Int) % 65536 = (r : Int) := by omega
  have hnb : (n : Int) ≤ 4294967296 := by omega
  clear hn
  go_enter Try.func24, Try.ntmps24
  go_wp2_with fail
  refine (lenT _ _ _ _ _ _ _ _ hN (by omega) h0 h1).mono ?_
  rintro e w1 ⟨rfl, q, rfl⟩
  go_wp2
  go_end0
  exact ⟨rfl, q, by simp⟩

theorem zero23 (w : World) : (zeroValue 23).run Try.prog w = .ok (.slice none 0 0) w := by
  obtain ⟨i, hi, hz0, hz1, hz2⟩ := info_parts info23
  simp [zeroValue, typeInfo, hi, hz0]

set_option maxHeartbeats 400000 in
/-- The cut lies in the full piece i. -/
theorem tr_full (S Bf N m c' i r pb po P : Nat) (la : Option Addr) (n : Nat) (V : Nat → Value) (w : World) (hN : N ≤ 43690) (hm : m ≤ 1048576) (hi : i < N) (hP : P ≤ 65536)
    (hS : w.rowIs S 46 2 (fun k => if k = 0 then .slice (some ⟨Bf, 0, none⟩) N N else .slice la m c')) (hB : w.rowIs Bf 23 N V) (hSB : S ≠ Bf) (hV : V i = .slice (some ⟨pb, po, none⟩) P P)
    (hn : n = i * 65536 + r) (hr : r < 65536) (hrP : r ≤ P) :
    Calls Try.prog 24 #[.pointer (some ⟨S, 0, none⟩), .int .i64 (n : Int)] w fun e w' => e = .returned (.tuple #[]) ∧
      ∃ q, w' = (((((w.drewN q).setCell ⟨S, 1, none⟩ (.slice (some ⟨pb, po, none⟩) P P)).setCells Bf i (List.replicate (N - i) (.slice none 0 0))).setCell ⟨S, 0, none⟩ (.slice (some ⟨Bf, 0, none⟩) i N)).setCell ⟨S, 1, none⟩ (.slice (some ⟨pb, po, none⟩) r P)) := by
  have t1 : decide ((N : Int) * 65536 + (m : Int) ≤ (n : Int)) = false := decide_eq_false (by omega)
  have t2 : (n : Int) / 65536 = (i : Int) := by omega
  have t3 : (n : Int) % 65536 = (r : Int) := by omega
  have hnb : (n : Int) ≤ 4294967296 := by omega
  have h0 : w.cell? ⟨S, 0, none⟩ = some (.slice (some ⟨Bf, 0, none⟩) N N) := by have := hS.cell (show 0 < 2 by omega); simpa using this
  have h1 : w.cell? ⟨S, 1, none⟩ = some (.slice la m c') := by have := hS.cell (show 1 < 2 by omega); simpa using this
  have f0 : w.frozen? ⟨S, 0, none⟩ = false := hS.frozen 0
  have f1 : w.frozen? ⟨S, 1, none⟩ = false := hS.frozen 1
  have hBi : w.cell? ⟨Bf, i, none⟩ = some (.slice (some ⟨pb, po, none⟩) P P) := by rw [hB.cell hi, hV]
  have hlt : (i : Int) < (N : Int) := by omega
  have HB : Hid (w.rowIs Bf 23 N V) := hB
  have HS : Hid (w.rowIs S 46 2 (fun k => if k = 0 then .slice (some ⟨Bf, 0, none⟩) N N else .slice la m c')) := hS
  clear hn hS hB hV
  go_enter Try.func24, Try.ntmps24
  go_wp2_with fail
  refine (lenT _ _ _ _ _ _ _ _ hN (by omega) h0 h1).mono ?_
  rintro e w1 ⟨rfl, q, rfl⟩
  have hcl : ∀ ty, (Builtin.clear_ #[22] ty #[.slice (some ⟨Bf, i, none⟩) (N - i) (N - i)]).run Try.prog ((w.drewN q).setCell ⟨S, 1, none⟩ (.slice (some ⟨pb, po, none⟩) P P)) =
      .ok (.tuple #[]) (((w.drewN q).setCell ⟨S, 1, none⟩ (.slice (some ⟨pb, po, none⟩) P P)).setCells Bf i (List.replicate (N - i) (.slice none 0 0))) := by
    intro ty
    have hrow : ((w.drewN q).setCell ⟨S, 1, none⟩ (.slice (some ⟨pb, po, none⟩) P P)).rowIs Bf 23 N V := World.rowIs.setOther (show (w.drewN q).rowIs Bf 23 N V from HB.out) (fun e => hSB e.symm) _
    exact Lib.run_clear_slice _ 22 23 ty (.slice none 0 0) Try.underlying22 zero23 rfl rfl Bf i (N - i) (N - i) (by omega) (fun j hj => by rw [hrow.cell (show i + j < N by omega)]; rfl) (fun j hj => hrow.frozen _)
  obtain ⟨W2, hW2⟩ : ∃ W2, ((w.drewN q).setCell ⟨S, 1, none⟩ (.slice (some ⟨pb, po, none⟩) P P)).setCells Bf i (List.replicate (N - i) (.slice none 0 0)) = W2 := ⟨_, rfl⟩
  rw [hW2] at hcl
  have hS1 : ((w.drewN q).setCell ⟨S, 1, none⟩ (.slice (some ⟨pb, po, none⟩) P P)).rowIs S 46 2 _ := World.rowIs.set (show (w.drewN q).rowIs S 46 2 _ from HS.out) 1 _
  have hlt2 := hS1.lt
  have hS2 : W2.rowIs S 46 2 _ := hS1.of_block (by rw [← hW2]; exact World.heap_setCells_other _ _ _ _ hlt2 hSB)
  have g0 : W2.cell? ⟨S, 0, none⟩ = some (.slice (some ⟨Bf, 0, none⟩) N N) := by have := hS2.cell (show 0 < 2 by omega); simpa using this
  have g1 : W2.cell? ⟨S, 1, none⟩ = some (.slice (some ⟨pb, po, none⟩) P P) := by have := hS2.cell (show 1 < 2 by omega); simpa using this
  have k0 : W2.frozen? ⟨S, 0, none⟩ = false := hS2.frozen 0
  have k1 : W2.frozen? ⟨S, 1, none⟩ = false := hS2.frozen 1
  have HW : Hid (((w.drewN q).setCell ⟨S, 1, none⟩ (.slice (some ⟨pb, po, none⟩) P P)).setCells Bf i (List.replicate (N - i) (.slice none 0 0)) = W2) := hW2
  clear hW2 hS1 hS2 hlt2
  go_wp2
  go_end0
  exact ⟨rfl, q, by rw [HW.out]⟩
end Go.Proofs.Qxb6604239a.trunc
