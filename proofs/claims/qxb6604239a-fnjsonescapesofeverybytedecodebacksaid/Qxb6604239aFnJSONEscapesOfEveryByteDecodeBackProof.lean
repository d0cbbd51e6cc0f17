/- The proof of Rows.FnJSONEscapesOfEveryByteDecodeBackSaid; its frame is the given shell, its end turned to Below. -/
import Derived.Test.Qxb6604239aRows
import Derived.WalkKit
import Derived.ProofKit
import Derived.OpenShut
import Derived.ShutString
import Derived.ChangeOld
import Derived.Below
import Derived.Test.Qxb6604239aDec
import Derived.Test.Qxb6604239aJPlain
namespace Go.Proofs.Qxb6604239a.fnJSONEscapesOfEveryByteDecodeBack
open Go.ChangeShapes Go.WideShapes Go.ChangeAt Go.RowKit
open Go.ChangeMaps (open_string shut_string)
set_option linter.unusedVariables false      -- a walk need not use every 'w<i>' (that an integer argument fits its kind)

theorem own : ownKnob Try.prog.godebug = none := by kernel_rfl

open Go.Proofs.Qxb6604239a.esc Go.Proofs.Qxb6604239a.dec

theorem bytes_yes (s : ByteArray) (w : World) (hn : s.size ≤ 1048576) : Calls Try.prog 20 #[.string s] w fun e w' => e = .returned (.bool true) ∧ w' = w := by
  go_enter Try.func20, Try.ntmps20
  go_wp2
  go_ret
  exact ⟨rfl, rfl⟩
theorem bytes_no (s : ByteArray) (w : World) (hm : s.size ≤ maxLen) (hn : 1048576 < s.size) : Calls Try.prog 20 #[.string s] w fun e w' => e = .returned (.bool false) ∧ w' = w := by
  go_enter Try.func20, Try.ntmps20
  go_wp2
  go_ret
  exact ⟨rfl, rfl⟩
theorem walk_long (s : ByteArray) (w : World) (hm : s.size ≤ maxLen) (hn : 1048576 < s.size) : Calls Try.prog 5 #[.string s] w fun e w' => e = .returned (.bool true) ∧ Below w.heap.size w w' := by
  go_enter Try.func5, Try.ntmps5
  go_wp2_with fail
  refine (bytes_no _ _ hm hn).mono ?_
  rintro e w' ⟨rfl, rfl⟩
  go_wp2
  go_ret
  exact ⟨rfl, Below.refl _ _⟩
theorem walk_mid (s : ByteArray) (w : World) (hn : s.size ≤ 1048576) (hx' : 65536 < s.size) : Calls Try.prog 5 #[.string s] w fun e w' => e = .returned (.bool true) ∧ Below w.heap.size w w' := by
  go_enter Try.func5, Try.ntmps5
  go_wp2_with fail
  refine (bytes_yes _ _ hn).mono ?_
  rintro e w' ⟨rfl, rfl⟩
  go_wp2
  go_ret
  exact ⟨rfl, Below.refl _ _⟩

/-- What is known of the slice gathered behind k bytes. -/
def Got (w : World) (s : ByteArray) (k : Nat) (v : Value) (wr : World) : Prop :=
  wr.ownsRow w.heap.size 5 1 v (ej s k).length ((ej s k).map (Value.int .u8)) ∧ Below w.heap.size w wr ∧ w.heap.size ≤ wr.heap.size

theorem got_next {w wr w' : World} {s : ByteArray} {k : Nat} {v v' : Value} (h : Got w s k v wr)
    (ho : w'.ownsRow w.heap.size 5 1 v' ((ej s k).length + (esc (ch s k)).length) ((ej s k).map (Value.int .u8) ++ (esc (ch s k)).map (Value.int .u8))) (hg : wr.grownBy w' v.ownBlock) : Got w s (k + 1) v' w' := by
  obtain ⟨h1, h2, h3⟩ := h
  refine ⟨?_, h2.grown hg h3 (fun b hb => (h1.lt b hb).1), Nat.le_trans h3 hg.size⟩
  rw [ej_succ, List.length_append, List.map_append]
  exact ho
/-- At the end: the slice is nil (no byte), or a row whose cells are the escapes. -/
theorem got_end {w wr : World} {s : ByteArray} {v : Value} (h : Got w s s.size v wr) :
    (v = .slice none 0 0 ∧ s.size = 0) ∨ ∃ g cap N, v = .slice (some ⟨g, 0, none⟩) N cap ∧ (ej s s.size).length = N ∧ ∀ j, j < N → wr.cell? ⟨g, 0 + j, none⟩ = some (.int .u8 (fj s j)) := by
  obtain ⟨h1, _, _⟩ := h
  have hl := ej_len s s.size
  rcases h1.2 with ⟨e, hn⟩ | ⟨g, cap, cur, e, _, hg, _⟩
  · exact .inl ⟨e, by omega⟩
  · refine .inr ⟨g, cap, _, e, rfl, fun j hj => ?_⟩
    have := h1.cells (g := g) (by rw [e]; rfl) j (.int .u8 (fj s j)) (by unfold fj; simp [List.getD_eq_getElem?_getD, hj])
    have hadd : (⟨g, 0, none⟩ : Addr).add j = ⟨g, 0 + j, none⟩ := by unfold Addr.add; split <;> simp_all
    rw [hadd] at this
    exact this

set_option maxHeartbeats 1000000 in
theorem walk_go (s : ByteArray) (w : World) (hx' : s.size ≤ 65536) : Calls Try.prog 5 #[.string s] w fun e w' => e = .returned (.bool true) ∧ Below w.heap.size w w' := by
  go_enter Try.func5, Try.ntmps5
  go_wp2_with fail
  refine (bytes_yes _ _ (by omega)).mono ?_
  rintro e w0 ⟨rfl, rfl⟩
  go_wp2
  go_loopw [3, 4] (fun v i wr => ∃ k : Nat, k ≤ s.size ∧ i = .int .i64 k ∧ Hid (Got w0 s k v wr)) (fun _ i _ => s.size - (intOf i).toNat)
  case atStart => exact ⟨0, Nat.zero_le _, rfl, ⟨World.ownsRow_nil _ _ _ _, Below.refl _ _, Nat.le_refl _⟩⟩
  case round =>
    obtain ⟨k, hk, rfl, hgot⟩ := hrel
    by_cases hlt : k < s.size
    · have HX : Hid (ch s k = (s[k].toNat : Int)) := ch_at hlt
      have hbl := (ej_len s k).2
      have hb0 := ch_bd s k
      go_wp2_with fail
      have hz := zzapp w0.heap.size _ _ _ (ch s k) wr hgot.out.1 (by omega) hgot.out.2.2 hb0.1 hb0.2
      rw [HX.out] at hz
      refine hz.mono ?_
      rintro e w1 ⟨v', rfl, ho, hg⟩
      rw [← HX.out] at ho
      have HN : Hid (Got w0 s (k + 1) v' w1) := got_next hgot.out ho hg
      clear ho hg hz
      go_wp2
      go_roundw
      case rel => exact ⟨k + 1, hlt, by go_num, HN⟩
      case measure => simp [intOf]; omega
    · obtain rfl : k = s.size := by omega
      have HB : Hid (Below w0.heap.size w0 wr) := hgot.out.2.1
      rcases got_end hgot.out with ⟨rfl, h0⟩ | ⟨g, cap, N, rfl, hN, hcell⟩
      · clear hgot
        go_wp2
        go_loop [5] (fun i => i = .int .i64 0) (fun _ => 0)
        case atStart => exact rfl
        case round =>
          subst hrel
          go_wp2
          go_loop [6, 7] (fun i k => i = .int .i64 0 ∧ k = .int .i64 0) (fun _ _ => 0)
          case atStart => exact ⟨rfl, rfl⟩
          case round =>
            obtain ⟨rfl, rfl⟩ := hrel
            go_wp2
            go_ret
            exact ⟨rfl, HB.out⟩
      · clear hgot
        have hl := ej_len s s.size
        rw [hN] at hl
        obtain ⟨hl1, hl2⟩ := hl
        have HN : Hid ((ej s s.size).length = N) := hN
        have HC : Hid (∀ j, j < N → wr.cell? ⟨g, 0 + j, none⟩ = some (.int .u8 (fj s j))) := hcell
        have d1 : decide ((N : Int) < 2 * (s.size : Int)) = false := decide_eq_false (by omega)
        have d2 : decide (6 * (s.size : Int) < (N : Int)) = false := decide_eq_false (by omega)
        clear hN hcell
        go_wp2
        go_loop [5] (fun i => ∃ t : Nat, t ≤ N ∧ i = .int .i64 t) (fun i => N - (intOf i).toNat)
        case atStart => exact ⟨0, Nat.zero_le _, rfl⟩
        case round =>
          obtain ⟨t, ht, rfl⟩ := hrel
          by_cases hlt : t < N
          · have hct : wr.cell? ⟨g, t, none⟩ = some (.int .u8 (fj s t)) := by simpa using HC.out t hlt
            have hp := fj_print s t (by rw [HN.out]; exact hlt)
            have p1 : decide (fj s t < 32) = false := decide_eq_false (by omega)
            have p2 : decide (126 < fj s t) = false := decide_eq_false (by omega)
            go_wp2
            go_round
            case rel => exact ⟨t + 1, hlt, by go_num⟩
            case measure => simp [intOf]; omega
          · obtain rfl : t = N := by omega
            go_wp2
            go_loop [6, 7] (fun i k => ∃ k' p : Nat, k' ≤ s.size ∧ p ≤ t ∧ Hid ((ej s k').length = p) ∧ i = .int .i64 p ∧ k = .int .i64 k') (fun i _ => t - (intOf i).toNat)
            case atStart => exact ⟨0, 0, Nat.zero_le _, Nat.zero_le _, rfl, rfl, rfl⟩
            case round =>
              obtain ⟨k, p, hk, hpt, hp, rfl, rfl⟩ := hrel
              by_cases hks : k < s.size
              · have HX : Hid (ch s k = (s[k].toNat : Int)) := ch_at hks
                have hb0 := ch_bd s k
                obtain ⟨L, hL⟩ : ∃ L, (esc (ch s k)).length = L := ⟨_, rfl⟩
                have hLL := esc_len (ch s k)
                rw [hL] at hLL
                have hL2 : 2 ≤ L := by omega
                have hL6 : L ≤ 6 := by omega
                have hle := ej_le s k hks
                rw [hL, hp.out, HN.out] at hle
                have hF := fj_at s k hks
                rw [hL, hp.out] at hF
                have HL : Hid ((esc (ch s k)).length = L) := hL
                have HF : Hid (∀ j, j < L → fj s (p + j) = (esc (ch s k)).getD j 0) := hF
                clear hL hLL hF
                have n1 : (ch s k != (s[k].toNat : Int)) = false := by rw [HX.out]; simp
                have n0 : (s[k].toNat : Int) ≤ 255 := by rw [← HX.out]; exact hb0.2
                have n2 : decide ((p : Int) + (L : Int) ≤ (p : Int)) = false := decide_eq_false (by omega)
                have n3 : decide ((s.size : Int) ≤ (k : Int)) = false := decide_eq_false (by omega)
                go_wp2_with fail
                have hz := dec g 0 t cap p (fj s) (ch s k) wr (by omega) hb0.1 hb0.2 HC.out (by rw [HL.out]; exact hle) (by rw [HL.out]; exact HF.out)
                rw [HL.out] at hz
                refine hz.mono ?_
                clear hz
                rintro e w1 ⟨rfl, rfl⟩
                go_wp2
                go_round
                case rel => exact ⟨k + 1, p + L, by omega, by omega, (show (ej s (k + 1)).length = p + L by rw [ej_succ, List.length_append, hp.out, HL.out]), by go_num, by go_num⟩
                case measure => simp [intOf]; omega
              · obtain rfl : k = s.size := by omega
                obtain rfl : p = t := by rw [← hp.out, HN.out]
                go_wp2
                go_ret
                exact ⟨rfl, HB.out⟩
theorem walk (a0 : ByteArray) (w0 : a0.size ≤ maxLen) (w : World) :
    Calls Try.prog 5 #[.string a0] w fun e w' => e = .returned (.bool true) ∧ Below w.heap.size w w' := by
  by_cases h1 : 1048576 < a0.size
  · exact walk_long _ _ w0 h1
  by_cases h2 : 65536 < a0.size
  · exact walk_mid _ _ (by omega) h2
  · exact walk_go _ _ (by omega)

/-! ### THE ROW's STEP: WRITTEN OUT: LEAVE IT -/
set_option maxRecDepth 100000 in
theorem lifted (os : Os) (started : os.Started) (H : Type) (enc : TypeId × Value → H) :
    ReturnsInHanded {} Try.checked os 5 .any (Rows.fnJSONEscapesOfEveryByteDecodeBackSpec.pre6 enc Try.prog Try.f5 Rows.fnJSONEscapesOfEveryByteDecodeBackRow.domain false) (Rows.fnJSONEscapesOfEveryByteDecodeBackSpec.post enc Try.prog Try.f5 false true false false) := by
  refine returnsInHanded_of_change (C := Try.checked) own started (by kernel_rfl) Try.func5
    (ChangeSpec.witness6 (enc := enc) (C := Try.checked) false ⟨#[], #[.string ByteArray.empty], []⟩ 8 (by kernel_rfl) (by kernel_rfl) (by kernel_rfl) (by kernel_rfl)) ?_
  intro W base args ds gs before hval0 hW hcnd _
  have hval : ∀ (j : Nat) t v, Try.f5.params[j]? = some t → args[j]? = some v → Value.okWide Try.prog W .any base t v := hval0
  have hW' := hW
  obtain ⟨p, q, hA0, hV, rfl, hfz, hnd⟩ := hW
  have hA : DataW.TrodAll enc Try.prog W 0 (fun _ => true) true Try.f5.params.toList args.toList ds p := hA0
  rw [Try.params5] at hA hval
  obtain ⟨v0, vs0, d0, ds0, p0, q0, hargs, rfl, rfl, h0, r0⟩ := trodAll_cons hA
  obtain ⟨rfl, rfl, rfl⟩ := trodAll_nil r0
  obtain rfl : args = #[v0] := by cases args; simp_all
  obtain ⟨rfl, rfl⟩ := trodVars_none hV
  obtain ⟨a0, rfl, rfl, rfl, w0⟩ := open_string Try.underlying9 (hval 0 9 v0 rfl rfl) h0
  clear hA0 hval0
  simp only [List.append_nil] at hW'
  refine (walk a0 w0 W).mono fun e W' ⟨he, hg⟩ => ?_
  subst he
  exact ⟨_, rfl, _, _, _, [], [], [], hW', trodAll_mk1 (shut_bool Try.underlying4 _), (trodAll_cons_mk (shut_string Try.underlying9 w0) trodAll_mk0), rfl, hg.frame _, fun h => by cases h⟩

theorem over : Rows.fnJSONEscapesOfEveryByteDecodeBackRow.holds Try.pinned (OpenSpec.ofChange Rows.fnJSONEscapesOfEveryByteDecodeBackSpec) :=
  OpenClaim.holds_of_wide 5 Try.f5 rfl rfl rfl rfl rfl rfl rfl ⟨rfl, rfl, rfl, rfl, rfl⟩ rfl rfl rfl rfl rfl (by kernel_rfl) Try.func5 (by kernel_rfl)
    (of_decide_eq_true (by kernel_rfl)) (by unfold Func.isWrapper; first | (rw [if_pos (by decide +kernel)]; kernel_rfl) | (rw [if_neg (by decide +kernel)]; exact ⟨rfl, rfl⟩))
    (fun os started H enc _ => lifted os started H enc)

/-- ████ THE STATEMENT ████ -/
theorem proved : Rows.FnJSONEscapesOfEveryByteDecodeBackSaid :=
  over
end Go.Proofs.Qxb6604239a.fnJSONEscapesOfEveryByteDecodeBack
