import Derived.Test.Qxb6604239aTruncD
namespace Go.Proofs.Qxb6604239a.trunc
open Go.ChangeShapes Go.WideShapes Go.ChangeAt Go.RowKit
open Go.Proofs.Qxb6604239a.esc Go.Proofs.Qxb6604239a.copy
set_option linter.unusedVariables false

theorem rowIs_setCells {w : World} {b t n : Nat} {f : Nat → Value} (z : Value) : ∀ (m o : Nat) (w : World) (f : Nat → Value), w.rowIs b t n f → (w.setCells b o (List.replicate m z)).rowIs b t n (fun j => if o ≤ j ∧ j < o + m then z else f j) := by
  intro m
  induction m with
  | zero => intro o w f h; exact h.congr (fun j hj => by rw [if_neg (by omega)])
  | succ m ih =>
    intro o w f h
    have := ih (o + 1) (w.setCell ⟨b, o, none⟩ z) _ (h.set o z)
    refine World.rowIs.congr this (fun j hj => ?_)
    show (if o + 1 ≤ j ∧ j < o + 1 + m then z else if j = o then z else f j) = (if o ≤ j ∧ j < o + (m + 1) then z else f j)
    by_cases e1 : j = o
    · rw [if_neg (show ¬ (o + 1 ≤ j ∧ j < o + 1 + m) by omega), if_pos e1, if_pos (show o ≤ j ∧ j < o + (m + 1) by omega)]
    · by_cases e2 : o + 1 ≤ j ∧ j < o + 1 + m
      · rw [if_pos e2, if_pos (show o ≤ j ∧ j < o + (m + 1) by omega)]
      · rw [if_neg e2, if_neg e1, if_neg (show ¬ (o ≤ j ∧ j < o + (m + 1)) by omega)]

theorem setCells_same (b : Nat) : ∀ (vs : List Value) (o : Nat) (w : World), (w.setCells b o vs).os = w.os ∧ (w.setCells b o vs).tape = w.tape ∧ (w.setCells b o vs).output = w.output ∧ (w.setCells b o vs).heap.size = w.heap.size
  | [], _, _ => ⟨rfl, rfl, rfl, rfl⟩
  | v :: r, o, w => by
    obtain ⟨h1, h2, h3, h4⟩ := setCells_same b r (o + 1) (w.setCell ⟨b, o, none⟩ v)
    exact ⟨h1, h2, h3, h4.trans (by simp)⟩
theorem box_row (w : World) (v0 v1 : Value) : (w.alloc (.cells #[v0, v1] 46)).rowIs w.heap.size 46 2 (fun k => if k = 0 then v0 else v1) := by
  refine World.rowIs_alloc w #[v0, v1] 46 _ (fun i hi => ?_)
  have : i = 0 ∨ i = 1 := by simp at hi; omega
  rcases this with rfl | rfl <;> simp

set_option maxHeartbeats 400000 in
theorem zt_all (N c m c' : Nat) (fa la : Option Addr) (n : Int) (w : World) (hN : N ≤ 43690) (hm : m ≤ 1048576) (hn : (N : Int) * 65536 + (m : Int) ≤ n) :
    Calls Try.prog 13 #[.slice fa N c, .slice la m c', .int .i64 n] w fun e w' => e = .returned (.tuple #[.slice fa N c, .slice la m c']) ∧ Below w.heap.size w w' := by
  have hb := box_row w (.slice fa N c) (.slice la m c')
  have h0 : (w.alloc (.cells #[.slice fa N c, .slice la m c'] 46)).cell? ⟨w.heap.size, 0, none⟩ = some (.slice fa N c) := hb.cell (show 0 < 2 by omega)
  have h1 : (w.alloc (.cells #[.slice fa N c, .slice la m c'] 46)).cell? ⟨w.heap.size, 1, none⟩ = some (.slice la m c') := hb.cell (show 1 < 2 by omega)
  have H0 : Hid ((w.alloc (.cells #[.slice fa N c, .slice la m c'] 46)).cell? ⟨w.heap.size, 0, none⟩ = some (.slice fa N c)) := h0
  have H1 : Hid ((w.alloc (.cells #[.slice fa N c, .slice la m c'] 46)).cell? ⟨w.heap.size, 1, none⟩ = some (.slice la m c')) := h1
  clear hb h0 h1
  go_enter Try.func13, Try.ntmps13
  go_wp2_with fail
  refine (tr_all _ _ _ _ _ _ _ _ _ hN hm H0.out H1.out hn).mono ?_
  rintro e w1 ⟨rfl, q, rfl⟩
  have g0 := H0.out
  have g1 := H1.out
  go_wp2
  go_quiet (fail)
  go_wp2
  go_ret2
  exact ⟨rfl, ⟨rfl, rfl, rfl, by simp [World.drewN], fun k hk => by simpa using Below.heap_alloc w _ k hk⟩⟩

set_option maxHeartbeats 400000 in
theorem zt_last (N c m c' lb lo : Nat) (fa : Option Addr) (n r : Nat) (w : World) (hN : N ≤ 43690) (hm : m ≤ 65536) (hmc : m ≤ c') (hn : n = N * 65536 + r) (hr : r < m) :
    Calls Try.prog 13 #[.slice fa N c, .slice (some ⟨lb, lo, none⟩) m c', .int .i64 (n : Int)] w fun e w' => e = .returned (.tuple #[.slice fa N c, .slice (some ⟨lb, lo, none⟩) r c']) ∧ Below w.heap.size w w' := by
  have hb := box_row w (.slice fa N c) (.slice (some ⟨lb, lo, none⟩) m c')
  obtain ⟨W, hW⟩ : ∃ W, w.alloc (.cells #[.slice fa N c, .slice (some ⟨lb, lo, none⟩) m c'] 46) = W := ⟨_, rfl⟩
  have HB : Hid (Below w.heap.size w W) := by rw [← hW]; exact (Below.refl _ _).alloc (Nat.le_refl _) _
  have HR : Hid (W.rowIs w.heap.size 46 2 (fun k => if k = 0 then .slice fa N c else .slice (some ⟨lb, lo, none⟩) m c')) := by rw [← hW]; exact hb
  have HN : Hid (n = N * 65536 + r) := hn
  clear hb hn
  go_enter Try.func13, Try.ntmps13
  go_wp2_with fail
  clear hW
  refine (tr_last _ _ _ _ _ _ _ _ _ r _ hN hm hmc (HR.out.cell (show 0 < 2 by omega)) (HR.out.cell (show 1 < 2 by omega)) (HR.out.frozen 1) HN.out hr).mono ?_
  rintro e w1 ⟨rfl, q, hw1⟩
  have hr1 := World.rowIs.set (show (W.drewN q).rowIs w.heap.size 46 2 _ from HR.out) 1 (.slice (some ⟨lb, lo, none⟩) r c')
  rw [← hw1] at hr1
  have g0 : w1.cell? ⟨w.heap.size, 0, none⟩ = some (.slice fa N c) := hr1.cell (show 0 < 2 by omega)
  have g1 : w1.cell? ⟨w.heap.size, 1, none⟩ = some (.slice (some ⟨lb, lo, none⟩) r c') := hr1.cell (show 1 < 2 by omega)
  have HB1 : Hid (Below w.heap.size w w1) := by rw [hw1]; exact Below.setCell (show Below w.heap.size w (W.drewN q) from ⟨HB.out.os, HB.out.tape, HB.out.output, HB.out.size, HB.out.block⟩) (Nat.le_refl _) _
  clear hw1 hr1
  go_wp2
  go_quiet (fail)
  go_wp2
  go_ret2
  exact ⟨rfl, HB1.out.os, HB1.out.tape, HB1.out.output, HB1.out.size, HB1.out.block⟩

set_option maxHeartbeats 400000 in
theorem zt_full (Bf N m c' i r pb po P : Nat) (la : Option Addr) (n : Nat) (V : Nat → Value) (w : World) (hN : N ≤ 43690) (hm : m ≤ 1048576) (hi : i < N) (hP : P ≤ 65536)
    (hB : w.rowIs Bf 23 N V) (hV : V i = .slice (some ⟨pb, po, none⟩) P P) (hn : n = i * 65536 + r) (hr : r < 65536) (hrP : r ≤ P) :
    Calls Try.prog 13 #[.slice (some ⟨Bf, 0, none⟩) N N, .slice la m c', .int .i64 (n : Int)] w fun e w' => e = .returned (.tuple #[.slice (some ⟨Bf, 0, none⟩) i N, .slice (some ⟨pb, po, none⟩) r P]) ∧
      w.grownBy w' (some Bf) ∧ w'.rowIs Bf 23 N (fun j => if i ≤ j ∧ j < N then .slice none 0 0 else V j) := by
  have hb := box_row w (.slice (some ⟨Bf, 0, none⟩) N N) (.slice la m c')
  have hlt := hB.lt
  have hB1 := hB.alloc (.cells #[.slice (some ⟨Bf, 0, none⟩) N N, .slice la m c'] 46)
  obtain ⟨W, hW⟩ : ∃ W, w.alloc (.cells #[.slice (some ⟨Bf, 0, none⟩) N N, .slice la m c'] 46) = W := ⟨_, rfl⟩
  rw [hW] at hb hB1
  have HG : Hid (Below w.heap.size w W) := by rw [← hW]; exact (Below.refl _ _).alloc (Nat.le_refl _) _
  have HR : Hid (W.rowIs w.heap.size 46 2 (fun k => if k = 0 then .slice (some ⟨Bf, 0, none⟩) N N else .slice la m c')) := hb
  have HB : Hid (W.rowIs Bf 23 N V) := hB1
  have HV : Hid (V i = .slice (some ⟨pb, po, none⟩) P P) := hV
  have HN : Hid (n = i * 65536 + r) := hn
  clear hb hn hB hB1 hV
  go_enter Try.func13, Try.ntmps13
  go_wp2_with fail
  clear hW
  refine (tr_full w.heap.size Bf N m c' i r pb po P la n V W hN hm hi hP HR.out HB.out (by omega) HV.out HN.out hr hrP).mono ?_
  rintro e w1 ⟨rfl, q, hw1⟩
  have a1 : ((W.drewN q).setCell ⟨w.heap.size, 1, none⟩ (.slice (some ⟨pb, po, none⟩) P P)).rowIs w.heap.size 46 2 _ := World.rowIs.set (show (W.drewN q).rowIs w.heap.size 46 2 _ from HR.out) 1 _
  have b1 : ((W.drewN q).setCell ⟨w.heap.size, 1, none⟩ (.slice (some ⟨pb, po, none⟩) P P)).rowIs Bf 23 N V := World.rowIs.setOther (show (W.drewN q).rowIs Bf 23 N V from HB.out) (show Bf ≠ w.heap.size by omega) _
  have a2 := a1.of_block (World.heap_setCells_other ((W.drewN q).setCell ⟨w.heap.size, 1, none⟩ (.slice (some ⟨pb, po, none⟩) P P)) Bf i (List.replicate (N - i) (.slice none 0 0)) a1.lt (by omega))
  have b2 := rowIs_setCells (w := w) (f := V) (.slice none 0 0) (N - i) i _ _ b1
  have hr1 := (a2.set 0 (.slice (some ⟨Bf, 0, none⟩) i N)).set 1 (.slice (some ⟨pb, po, none⟩) r P)
  have hrB := (b2.setOther (a := ⟨w.heap.size, 0, none⟩) (show Bf ≠ w.heap.size by omega) (.slice (some ⟨Bf, 0, none⟩) i N)).setOther (a := ⟨w.heap.size, 1, none⟩) (show Bf ≠ w.heap.size by omega) (.slice (some ⟨pb, po, none⟩) r P)
  rw [← hw1] at hr1 hrB
  have g0 : w1.cell? ⟨w.heap.size, 0, none⟩ = some (.slice (some ⟨Bf, 0, none⟩) i N) := hr1.cell (show 0 < 2 by omega)
  have g1 : w1.cell? ⟨w.heap.size, 1, none⟩ = some (.slice (some ⟨pb, po, none⟩) r P) := hr1.cell (show 1 < 2 by omega)
  have HRB : Hid (w1.rowIs Bf 23 N (fun j => if i ≤ j ∧ j < N then .slice none 0 0 else V j)) := hrB.congr (fun j hj => by
    by_cases e : i ≤ j ∧ j < N
    · rw [if_pos e, if_pos (show i ≤ j ∧ j < i + (N - i) by omega)]
    · rw [if_neg e, if_neg (show ¬ (i ≤ j ∧ j < i + (N - i)) by omega)])
  have HK : Hid (w.grownBy w1 (some Bf)) := by
    obtain ⟨c1, c2, c3, c4⟩ := setCells_same Bf (List.replicate (N - i) (.slice none 0 0)) i ((W.drewN q).setCell ⟨w.heap.size, 1, none⟩ (.slice (some ⟨pb, po, none⟩) P P))
    rw [hw1]
    refine ⟨c1.trans HG.out.os, c2.trans HG.out.tape, c3.trans HG.out.output, ?_, fun k hk hne => ?_⟩
    · simp only [World.size_setCell]
      rw [c4]
      simp only [World.size_setCell]
      exact HG.out.size
    · have hkB : k ≠ Bf := fun e => hne (by rw [e])
      have hkS : k ≠ w.heap.size := by omega
      have hkW : k < W.heap.size := Nat.lt_of_lt_of_le hk HG.out.size
      rw [Below.heap_setCell _ _ _ _ hkS, Below.heap_setCell _ _ _ _ hkS, World.heap_setCells_other _ _ _ _ (by simpa using hkW) hkB, Below.heap_setCell _ _ _ _ hkS]
      exact HG.out.block k hk
  clear hw1 hr1 hrB a1 b1 a2 b2
  go_wp2
  go_quiet (fail)
  go_wp2
  go_ret2
  exact ⟨rfl, ⟨HK.out.os, HK.out.tape, HK.out.output, HK.out.size, HK.out.block⟩, HRB.out⟩
end Go.Proofs.Qxb6604239a.trunc
