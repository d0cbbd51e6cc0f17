import Derived.Test.Qxb6604715aSerH
namespace Go.Proofs.Qxb6604715a.ser
open Go.ChangeShapes Go.WideShapes Go.ChangeAt Go.RowKit
set_option linter.unusedVariables false
set_option maxRecDepth 20000

theorem turns_below {w w' : World} (h : Turns [] w w') : Below w.heap.size w w' := ⟨h.os, h.tape, h.output, h.size, fun k hk => h.block k hk (by simp)⟩
theorem made (w : World) (n : Nat) (C : Int) (hC : C = (n : Int)) (hn : n ≤ 8000000) : ∃ w', (Instr.makeSlice 31 (.int .i64 0) (.int .i64 C)).run Try.prog w = .ok (.slice (some ⟨w.heap.size, 0, none⟩) 0 n) w' ∧ Own w' w.heap.size (.slice (some ⟨w.heap.size, 0, none⟩) 0 n) [] ∧ w.grownBy w' none := by
  obtain ⟨i, hi, hz0, hz1, hz2⟩ := info_parts info5
  obtain ⟨w', h1, h2, h3⟩ := run_make_own (P := Try.prog) w w.heap.size 31 5 i (.int .u8 0) 1 Try.underlying31 hi hz0 hz1 .i64 .i64 n (by rw [hz2]; omega) (by unfold maxLen; omega) (Nat.le_refl _)
  subst hC
  exact ⟨w', h1, h2, h3⟩
theorem src_new (w : World) (z : Int) : Src (w.alloc (.cells #[.int .u8 z] 5)) (some ⟨w.heap.size, 0, none⟩) 1 1 [z] :=
  .inr ⟨_, rfl, rfl, fun j u hj => cells_new w [.int .u8 z] j _ (by rcases j with _ | j <;> simp_all)⟩
theorem own_alloc {w : World} {base : Nat} {v : Value} {xs : List Int} (h : Own w base v xs) (o : Obj) : Own (w.alloc o) base v xs := World.ownsRow.alloc h o

theorem add_plain (b off j : Nat) : (⟨b, off, none⟩ : Addr).add j = ⟨b, off + j, none⟩ := by unfold Addr.add; split <;> simp_all
theorem add_none (x : Addr) {v : Value} {w : World} (h : w.cell? (x.add 0) = some v) : ∃ b off, x = ⟨b, off, none⟩ := by
  obtain ⟨b, off, sp⟩ := x
  have : sp = none := by simpa [Addr.add] using World.cell?_spot h
  exact ⟨b, off, by rw [this]⟩
theorem drewN_cell {w wr : World} {p : Addr} {v : Value} (h : ∃ q, wr = w.drewN q) (hc : w.cell? p = some v) : wr.cell? p = some v := by
  obtain ⟨q, rfl⟩ := h
  simpa using hc
theorem drewN_more {w wr : World} (h : ∃ q, wr = w.drewN q) (n : Nat) : ∃ q, wr.drewN n = w.drewN q := by
  obtain ⟨q, rfl⟩ := h
  exact ⟨q + n, by rw [World.drewN_drewN]⟩
theorem below_of {B : Nat} {w w1 wr : World} (h : Below B w w1) (hq : ∃ q, wr = w1.drewN q) : Below B w wr := by
  obtain ⟨q, rfl⟩ := hq
  exact ⟨h.os, h.tape, h.output, h.size, h.block⟩
theorem Src.at {w : World} {a : Option Addr} {n c : Nat} {zs : List Int} (h : Src w a n c zs) (hn : 0 < n) : ∃ b off, a = some ⟨b, off, none⟩ ∧ Lies w b off zs := by
  rcases h with ⟨_, h, _, _⟩ | ⟨x, rfl, hl, hc⟩
  · omega
  · obtain ⟨z, hz⟩ : ∃ z, zs[0]? = some z := ⟨zs[0]'(by omega), by simp⟩
    obtain ⟨b, off, rfl⟩ := add_none x (hc 0 z hz)
    exact ⟨b, off, rfl, fun j u hu => by rw [← add_plain]; exact hc j u hu⟩

set_option maxHeartbeats 800000 in
theorem walk_no (a0 a1 a2 a3 : Option Addr) (l0 l1 l2 l3 c0 c1 c2 c3 : Nat) (w : World) (h : 1048576 < l0 + l1 + l2 + l3) :
    Calls Try.prog 4 #[.slice a0 l0 c0, .slice a1 l1 c1, .slice a2 l2 c2, .slice a3 l3 c3] w fun e w' => e = .returned (.bool true) ∧ Below w.heap.size w w' := by
  go_enter Try.func4, Try.ntmps4
  go_wp2_with fail
  refine (bytes_no a0 a1 a2 a3 l0 l1 l2 l3 c0 c1 c2 c3 w h).mono ?_
  rintro e w' ⟨rfl, rfl⟩
  go_wp2_with fail
  go_ret
  exact ⟨rfl, Below.refl _ _⟩

set_option maxHeartbeats 4000000 in
theorem walk_go (a0 a1 a2 a3 : Option Addr) (l0 l1 l2 l3 c0 c1 c2 c3 : Nat) (z0 z1 z2 z3 : List Int) (w : World) (h : l0 + l1 + l2 + l3 ≤ 1048576)
    (s0 : Src w a0 l0 c0 z0) (s1 : Src w a1 l1 c1 z1) (s2 : Src w a2 l2 c2 z2) (s3 : Src w a3 l3 c3 z3) :
    Calls Try.prog 4 #[.slice a0 l0 c0, .slice a1 l1 c1, .slice a2 l2 c2, .slice a3 l3 c3] w fun e w' => e = .returned (.bool true) ∧ Below w.heap.size w w' := by
  have S0 : Hid (Src w a0 l0 c0 z0) := s0
  have S1 : Hid (Src w a1 l1 c1 z1) := s1
  have S2 : Hid (Src w a2 l2 c2 z2) := s2
  have S3 : Hid (Src w a3 l3 c3 z3) := s3
  have k0 := s0.len
  have k1 := s1.len
  have k2 := s2.len
  have k3 := s3.len
  clear s0 s1 s2 s3
  have ge1 := hlen_ge l1
  have le1 := hlen_le l1
  have hd1 : (der l1).length + 1 = hlen l1 := rfl
  obtain ⟨w1, run1, ho1, hg1⟩ := made w (l1 + l2 + 8) ((l1 : Int) + (l2 : Int) + 8) (by omega) (by omega)
  have HB1 : Hid (Below w.heap.size w w1) := (Below.refl _ w).grown hg1 (Nat.le_refl _) (by simp)
  have HO1 : Hid (Own w1 w.heap.size (.slice (some ⟨w.heap.size, 0, none⟩) 0 (l1 + l2 + 8)) []) := ho1
  clear ho1 hg1
  go_enter Try.func4, Try.ntmps4
  go_wp2_with fail
  refine (bytes_yes a0 a1 a2 a3 l0 l1 l2 l3 c0 c1 c2 c3 w h).mono ?_
  rintro e w' ⟨rfl, rfl⟩
  go_wp2_with (first | (at_builtin; refine wpList_app rfl _ _ rfl w'.heap.size _ [] rfl (own_alloc HO1.out _) (some ⟨w1.heap.size, 0, none⟩) 1 1 [2] rfl (src_new w1 2) (by simp) (Nat.le_trans HB1.out.size (by simp)) ?k1))
  intro v2 w2 ho2 hg2
  have HB2 : Hid (Below w'.heap.size w' w2) := HB1.out.grown (grown_alloc hg2) HB1.out.size HO1.out.ge
  have HO2 : Hid (Own w2 w'.heap.size v2 [2]) := ho2
  clear ho2 hg2 HO1
  go_wp2_with fail
  refine (derAll w'.heap.size v2 [2] l1 w2 HO2.out (by simp) HB2.out.size (by omega)).mono ?_
  rintro e w3 ⟨v3, rfl, ho3, hg3⟩
  have HB3 : Hid (Below w'.heap.size w' w3) := HB2.out.grown hg3 HB2.out.size HO2.out.ge
  have HO3 : Hid (Own w3 w'.heap.size v3 ([2] ++ der l1)) := ho3
  clear ho3 hg3 HO2 HB1 HB2
  go_wp2_with (first | (at_builtin; refine wpList_app rfl _ _ rfl w'.heap.size _ _ rfl HO3.out a1 l1 c1 z1 rfl (S1.out.kept HB3.out) (by simp; omega) HB3.out.size ?k2))
  intro v4 w4 ho4 hg4
  have HB4 : Hid (Below w'.heap.size w' w4) := HB3.out.grown hg4 HB3.out.size HO3.out.ge
  have HO4 : Hid (Own w4 w'.heap.size v4 ([2] ++ der l1 ++ z1)) := (show Own _ _ _ _ by simpa using ho4)
  clear ho4 hg4 HO3 HB3
  go_wp2_with (first | (at_builtin; refine wpList_app rfl _ _ rfl w'.heap.size _ _ rfl HO4.out a2 l2 c2 z2 rfl (S2.out.kept HB4.out) (by simp; omega) HB4.out.size ?k3))
  intro v5 w5 ho5 hg5
  have HB5 : Hid (Below w'.heap.size w' w5) := HB4.out.grown hg5 HB4.out.size HO4.out.ge
  clear hg5 HO4 HB4
  obtain ⟨IL, hIL⟩ : ∃ IL, [2] ++ der l1 ++ z1 ++ z2 = IL := ⟨_, rfl⟩
  have ho5 : Own w5 w'.heap.size v5 ([2] ++ der l1 ++ z1 ++ z2) := by simpa using ho5
  rw [hIL] at ho5
  have hI0 : IL.length = hlen l1 + l1 + l2 := by rw [← hIL]; simp; omega
  obtain ⟨g, capI, rfl, hcI, _, _, hlI⟩ := own_form ho5 (by omega)
  have HI : Hid (Lies w5 g 0 IL) := hlI
  clear hlI ho5
  obtain ⟨I, hI⟩ : ∃ I, IL.length = I := ⟨_, rfl⟩
  rw [hI] at hI0 hcI ⊢
  have hIb : I ≤ 1048600 := by omega
  have hIc : hlen l1 + l1 ≤ I := by omega
  clear hI0
  have geI := hlen_ge I
  have leI := hlen_le I
  have hdI : (der I).length + 1 = hlen I := rfl
  obtain ⟨w6, run6, ho6, hg6⟩ := made w5 (l0 + I + l3 + 8) ((l0 : Int) + (I : Int) + (l3 : Int) + 8) (by omega) (by omega)
  have HC6 : Hid (Below w5.heap.size w5 w6) := (Below.refl _ w5).grown hg6 (Nat.le_refl _) (by simp)
  have HO6 : Hid (Own w6 w5.heap.size (.slice (some ⟨w5.heap.size, 0, none⟩) 0 (l0 + I + l3 + 8)) []) := ho6
  have S0' : Hid (Src w5 a0 l0 c0 z0) := S0.out.kept HB5.out
  have S3' : Hid (Src w5 a3 l3 c3 z3) := S3.out.kept HB5.out
  have SI : Hid (Src w5 (some ⟨g, 0, none⟩) I capI IL) := hI ▸ HI.out.src
  clear ho6 hg6 S0 S3 S2 HI
  go_wp2_with (first | (at_builtin; refine wpList_app rfl _ _ rfl w5.heap.size _ [] rfl HO6.out a0 l0 c0 z0 rfl (S0'.out.kept HC6.out) (by simp; omega) HC6.out.size ?k4))
  intro v7 w7 ho7 hg7
  have HC7 : Hid (Below w5.heap.size w5 w7) := HC6.out.grown hg7 HC6.out.size HO6.out.ge
  have HO7 : Hid (Own w7 w5.heap.size v7 z0) := ho7
  clear ho7 hg7 HO6 HC6
  go_wp2_with (first | (at_builtin; refine wpList_app rfl _ _ rfl w5.heap.size _ _ rfl (own_alloc HO7.out _) (some ⟨w7.heap.size, 0, none⟩) 1 1 [48] rfl (src_new w7 48) (by omega) (Nat.le_trans HC7.out.size (by simp)) ?k5))
  intro v8 w8 ho8 hg8
  have HC8 : Hid (Below w5.heap.size w5 w8) := HC7.out.grown (grown_alloc hg8) HC7.out.size HO7.out.ge
  have HO8 : Hid (Own w8 w5.heap.size v8 (z0 ++ [48])) := (show Own _ _ _ _ by simpa using ho8)
  clear ho8 hg8 HO7 HC7
  go_wp2_with fail
  refine (derAll w5.heap.size v8 _ I w8 HO8.out (by simp; omega) HC8.out.size (by omega)).mono ?_
  rintro e w9 ⟨v9, rfl, ho9, hg9⟩
  have HC9 : Hid (Below w5.heap.size w5 w9) := HC8.out.grown hg9 HC8.out.size HO8.out.ge
  have HO9 : Hid (Own w9 w5.heap.size v9 (z0 ++ [48] ++ der I)) := ho9
  clear ho9 hg9 HO8 HC8
  go_wp2_with (first | (at_builtin; refine wpList_app rfl _ _ rfl w5.heap.size _ _ rfl HO9.out (some ⟨g, 0, none⟩) I capI IL rfl (SI.out.kept HC9.out) (by simp; omega) HC9.out.size ?k6))
  intro v10 w10 ho10 hg10
  have HC10 : Hid (Below w5.heap.size w5 w10) := HC9.out.grown hg10 HC9.out.size HO9.out.ge
  have HO10 : Hid (Own w10 w5.heap.size v10 (z0 ++ [48] ++ der I ++ IL)) := (show Own _ _ _ _ by simpa using ho10)
  clear ho10 hg10 HO9 HC9
  go_wp2_with (first | (at_builtin; refine wpList_app rfl _ _ rfl w5.heap.size _ _ rfl HO10.out a3 l3 c3 z3 rfl (S3'.out.kept HC10.out) (by simp; omega) HC10.out.size ?k7))
  intro v11 w11 ho11 hg11
  have HC11 : Hid (Below w5.heap.size w5 w11) := HC10.out.grown hg11 HC10.out.size HO10.out.ge
  clear hg11 HO10 HC10
  have ho11 : Own w11 w5.heap.size v11 (z0 ++ [48] ++ der I ++ IL ++ z3) := by simpa using ho11
  have hEL : z0 ++ [48] ++ der I ++ IL ++ z3 = z0 ++ ((48 :: der I) ++ ((2 :: der l1) ++ (z1 ++ (z2 ++ z3)))) := by rw [← hIL]; simp
  have hN : (z0 ++ [48] ++ der I ++ IL ++ z3).length = l0 + (hlen I + I) + l3 := by simp; omega
  obtain ⟨E, capE, rfl, hcE, _, hE, hlE⟩ := own_form ho11 (by omega)
  rw [hN] at hcE ⊢
  rw [hEL] at hlE
  have m0 := hlE.right
  have m1 := m0.left
  have m2 := m0.right.left
  have m3 := m0.right.right.left
  clear m0 hlE hEL hN ho11
  simp only [Nat.zero_add, k0] at m1 m2 m3
  have e1 : (48 :: der I).length = hlen I := by simp; omega
  have e2 : (2 :: der l1).length = hlen l1 := by simp; omega
  rw [e1] at m2 m3
  rw [e2] at m3
  have M1 : Hid (Lies w11 E l0 (48 :: der I)) := m1
  have M2 : Hid (Lies w11 E (l0 + hlen I) (2 :: der l1)) := m2
  have M3 : Hid (Lies w11 E (l0 + hlen I + hlen l1) z1) := m3
  clear m1 m2 m3 e1 e2
  have HB11 : Hid (Below w'.heap.size w' w11) := HB5.out.trans (HC11.out.mono HB5.out.size)
  go_wp2_with fail
  refine (zzNew (some ⟨E, 0, none⟩) _ capE w11).mono ?_
  rintro e w12 ⟨rfl, hX, tu12⟩
  have HT12 : Hid (Below w11.heap.size w11 w12) := turns_below tu12
  have hE12 : E < w12.heap.size := Nat.lt_of_lt_of_le hE HT12.out.size
  clear tu12
  go_wp2_with fail
  refine (zzSerialAt w11.heap.size E _ capE l0 I l1 w12 hX hE12 (by omega) hIc (by omega) hcE (M1.out.kept' HT12.out) (M2.out.kept' HT12.out)).mono ?_
  rintro e w13 ⟨ga, gc, rfl, hga, hgc, tu13⟩
  have HB12 : Hid (Below w'.heap.size w' w12) := HB11.out.trans (HT12.out.mono HB11.out.size)
  have HB13 : Hid (Below w'.heap.size w' w13) := HB12.out.trans ((turns_below tu13).mono HB12.out.size)
  have HL : Hid (Lies w13 E (l0 + hlen I + hlen l1) z1) := (M3.out.kept' HT12.out).kept' (turns_below tu13)
  have SS : Hid (Src w13 a1 l1 c1 z1) := S1.out.kept HB13.out
  clear tu13 hX M1 M2 M3 HT12 HB11 HB12 S1 run1 run6
  have hnil := someNil
  by_cases hz : l1 = 0
  · subst hz
    clear HL SS hga
    go_wp2_with fail
    go_loop [12] (fun i => i = .int .i64 0) (fun _ => 0)
    case atStart => exact rfl
    case round =>
      subst hrel
      go_wp2
      go_ret
      exact ⟨rfl, HB13.out⟩
  · obtain ⟨O, hO⟩ : ∃ O, l0 + hlen I + hlen l1 = O := ⟨_, rfl⟩
    rw [hO] at HL hga
    obtain rfl := hga (by omega)
    obtain ⟨b, off, rfl, hS⟩ := SS.out.at (by omega)
    have HS : Hid (Lies w13 b off z1) := hS
    clear hga SS hS hO
    have hb : l1 ≤ 1048576 := by omega
    go_wp2_with fail
    go_loopw [12] (fun i wr => ∃ k : Nat, k ≤ l1 ∧ i = .int .i64 k ∧ Hid (∃ q, wr = w13.drewN q)) (fun i _ => l1 - (intOf i).toNat)
    case atStart => exact ⟨0, Nat.zero_le _, rfl, ⟨0, rfl⟩⟩
    case round =>
      obtain ⟨k, hk, rfl, hw⟩ := hrel
      by_cases hlt : k < l1
      · obtain ⟨z, hz1⟩ : ∃ z, z1[k]? = some z := ⟨z1[k]'(by omega), by simp⟩
        have hck := drewN_cell hw.out (HL.out k z hz1)
        have hck' := drewN_cell hw.out (HS.out k z hz1)
        clear hz1
        have hi : (k : Int) < (l1 : Int) := by omega
        go_wp2
        go_quiet (fail)
        go_wp2
        go_roundw
        case rel => exact ⟨k + 1, hlt, by go_num, drewN_more hw.out _⟩
        case measure => simp [intOf]; omega
      · obtain rfl : k = l1 := by omega
        go_wp2
        go_ret
        exact ⟨rfl, below_of HB13.out hw.out⟩
end Go.Proofs.Qxb6604715a.ser
