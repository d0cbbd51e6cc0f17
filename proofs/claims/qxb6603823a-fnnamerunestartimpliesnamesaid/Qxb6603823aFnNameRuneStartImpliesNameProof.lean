/- The proof of Rows.FnNameRuneStartImpliesNameSaid; its frame is the given shell. -/
import Derived.Test.Qxb6603823aRows
import Derived.WalkKit
import Derived.ProofKit
import Derived.OpenShut
import Derived.ShutString
import Derived.Test.Qxb6603823aNameRune
namespace Go.Proofs.Qxb6603823a.fnNameRuneStartImpliesName
open Go.ChangeShapes Go.WideShapes Go.ChangeAt Go.RowKit
open Go.ChangeMaps (open_string shut_string)
set_option linter.unusedVariables false      -- a walk need not use every 'w<i>' (that an integer argument fits its kind)

theorem own : ownKnob Try.prog.godebug = none := by kernel_rfl

/-! ### STEP 1: THE WALK: the Go text returns true. 'Grown w w'': the world has at most new blocks (Derived/RowKit3.lean). Part the cases AHEAD of 'go_enter' where a test parts the walk; take each callee by a contract of your own. -/
theorem zzS (r : Int) (b : Bool) (w : World) (h : nameRune.isS r) :
    Calls Try.prog 6 #[.int .i32 r, .bool b] w fun e w' => e = .returned (.bool true) ∧ w' = w := by
  have H : Hid (nameRune.isS r) := h
  clear h
  go_enter Try.func6, Try.ntmps6
  go_wp2_with fail
  refine (nameRune.nrS r b _ H.out).mono ?_
  rintro e w' ⟨rfl, rfl⟩
  go_wp2
  go_ret
  exact ⟨rfl, rfl⟩
theorem zzC (r : Int) (b : Bool) (w : World) (h : nameRune.isC r) :
    Calls Try.prog 6 #[.int .i32 r, .bool b] w fun e w' => e = .returned (.bool (!b)) ∧ w' = w := by
  have H : Hid (nameRune.isC r) := h
  clear h
  go_enter Try.func6, Try.ntmps6
  go_wp2_with fail
  refine (nameRune.nrC r b _ H.out).mono ?_
  rintro e w' ⟨rfl, rfl⟩
  go_wp2
  go_ret
  exact ⟨rfl, rfl⟩
theorem zzG (r : Int) (b : Bool) (w : World) (h : nameRune.isG r) :
    Calls Try.prog 6 #[.int .i32 r, .bool b] w fun e w' => e = .returned (.bool false) ∧ w' = w := by
  have H : Hid (nameRune.isG r) := h
  clear h
  go_enter Try.func6, Try.ntmps6
  go_wp2_with fail
  refine (nameRune.nrG r b _ H.out).mono ?_
  rintro e w' ⟨rfl, rfl⟩
  go_wp2
  go_ret
  exact ⟨rfl, rfl⟩
set_option maxHeartbeats 400000 in
theorem walk0S (a0 : Int) (w : World) (h2 : a0 ≤ 182) (h : nameRune.isS a0) :
    Calls Try.prog 3 #[.int .i32 a0] w fun e w' => e = .returned (.bool true) ∧ Grown w w' := by
  have f0 : (a0 == 183) = false := by simp; omega
  have f1 : decide (768 ≤ a0) = false := by simp; omega
  have f2 : decide (8255 ≤ a0) = false := by simp; omega
  have H : Hid (nameRune.isS a0) := h
  clear h
  go_enter Try.func3, Try.ntmps3
  go_wp2_with fail
  refine (zzS a0 _ _ H.out).mono ?_
  rintro e w' ⟨rfl, rfl⟩
  go_wp2_with fail
  refine (zzS a0 _ _ H.out).mono ?_
  rintro e w' ⟨rfl, rfl⟩
  go_wp2
  go_ret
  exact ⟨rfl, by repeat (first | exact Grown.refl _ | apply Grown.drew | apply Grown.alloc)⟩
set_option maxHeartbeats 400000 in
theorem walk0G (a0 : Int) (w : World) (h2 : a0 ≤ 182) (h : nameRune.isG a0) :
    Calls Try.prog 3 #[.int .i32 a0] w fun e w' => e = .returned (.bool true) ∧ Grown w w' := by
  have f0 : (a0 == 183) = false := by simp; omega
  have f1 : decide (768 ≤ a0) = false := by simp; omega
  have f2 : decide (8255 ≤ a0) = false := by simp; omega
  have H : Hid (nameRune.isG a0) := h
  clear h
  go_enter Try.func3, Try.ntmps3
  go_wp2_with fail
  refine (zzG a0 _ _ H.out).mono ?_
  rintro e w' ⟨rfl, rfl⟩
  go_wp2_with fail
  refine (zzG a0 _ _ H.out).mono ?_
  rintro e w' ⟨rfl, rfl⟩
  go_wp2
  go_ret
  exact ⟨rfl, by repeat (first | exact Grown.refl _ | apply Grown.drew | apply Grown.alloc)⟩
set_option maxHeartbeats 400000 in
theorem walk1C (a0 : Int) (w : World) (h1 : 183 ≤ a0) (h2 : a0 ≤ 183) (h : nameRune.isC a0) :
    Calls Try.prog 3 #[.int .i32 a0] w fun e w' => e = .returned (.bool true) ∧ Grown w w' := by
  have f0 : (a0 == 183) = true := by simp; omega
  have H : Hid (nameRune.isC a0) := h
  clear h
  go_enter Try.func3, Try.ntmps3
  go_wp2_with fail
  refine (zzC a0 _ _ H.out).mono ?_
  rintro e w' ⟨rfl, rfl⟩
  go_wp2_with fail
  refine (zzC a0 _ _ H.out).mono ?_
  rintro e w' ⟨rfl, rfl⟩
  go_wp2
  go_ret
  exact ⟨rfl, by repeat (first | exact Grown.refl _ | apply Grown.drew | apply Grown.alloc)⟩
set_option maxHeartbeats 400000 in
theorem walk2S (a0 : Int) (w : World) (h1 : 184 ≤ a0) (h2 : a0 ≤ 767) (h : nameRune.isS a0) :
    Calls Try.prog 3 #[.int .i32 a0] w fun e w' => e = .returned (.bool true) ∧ Grown w w' := by
  have f0 : (a0 == 183) = false := by simp; omega
  have f1 : decide (768 ≤ a0) = false := by simp; omega
  have f2 : decide (8255 ≤ a0) = false := by simp; omega
  have H : Hid (nameRune.isS a0) := h
  clear h
  go_enter Try.func3, Try.ntmps3
  go_wp2_with fail
  refine (zzS a0 _ _ H.out).mono ?_
  rintro e w' ⟨rfl, rfl⟩
  go_wp2_with fail
  refine (zzS a0 _ _ H.out).mono ?_
  rintro e w' ⟨rfl, rfl⟩
  go_wp2
  go_ret
  exact ⟨rfl, by repeat (first | exact Grown.refl _ | apply Grown.drew | apply Grown.alloc)⟩
set_option maxHeartbeats 400000 in
theorem walk2G (a0 : Int) (w : World) (h1 : 184 ≤ a0) (h2 : a0 ≤ 767) (h : nameRune.isG a0) :
    Calls Try.prog 3 #[.int .i32 a0] w fun e w' => e = .returned (.bool true) ∧ Grown w w' := by
  have f0 : (a0 == 183) = false := by simp; omega
  have f1 : decide (768 ≤ a0) = false := by simp; omega
  have f2 : decide (8255 ≤ a0) = false := by simp; omega
  have H : Hid (nameRune.isG a0) := h
  clear h
  go_enter Try.func3, Try.ntmps3
  go_wp2_with fail
  refine (zzG a0 _ _ H.out).mono ?_
  rintro e w' ⟨rfl, rfl⟩
  go_wp2_with fail
  refine (zzG a0 _ _ H.out).mono ?_
  rintro e w' ⟨rfl, rfl⟩
  go_wp2
  go_ret
  exact ⟨rfl, by repeat (first | exact Grown.refl _ | apply Grown.drew | apply Grown.alloc)⟩
set_option maxHeartbeats 400000 in
theorem walk3C (a0 : Int) (w : World) (h1 : 768 ≤ a0) (h2 : a0 ≤ 879) (h : nameRune.isC a0) :
    Calls Try.prog 3 #[.int .i32 a0] w fun e w' => e = .returned (.bool true) ∧ Grown w w' := by
  have f0 : (a0 == 183) = false := by simp; omega
  have f1 : decide (768 ≤ a0) = true := by simp; omega
  have f2 : decide (a0 ≤ 879) = true := by simp; omega
  have H : Hid (nameRune.isC a0) := h
  clear h
  go_enter Try.func3, Try.ntmps3
  go_wp2_with fail
  refine (zzC a0 _ _ H.out).mono ?_
  rintro e w' ⟨rfl, rfl⟩
  go_wp2_with fail
  refine (zzC a0 _ _ H.out).mono ?_
  rintro e w' ⟨rfl, rfl⟩
  go_wp2
  go_ret
  exact ⟨rfl, by repeat (first | exact Grown.refl _ | apply Grown.drew | apply Grown.alloc)⟩
set_option maxHeartbeats 400000 in
theorem walk4S (a0 : Int) (w : World) (h1 : 880 ≤ a0) (h2 : a0 ≤ 8254) (h : nameRune.isS a0) :
    Calls Try.prog 3 #[.int .i32 a0] w fun e w' => e = .returned (.bool true) ∧ Grown w w' := by
  have f0 : (a0 == 183) = false := by simp; omega
  have f1 : decide (768 ≤ a0) = true := by simp; omega
  have f2 : decide (a0 ≤ 879) = false := by simp; omega
  have f3 : decide (8255 ≤ a0) = false := by simp; omega
  have H : Hid (nameRune.isS a0) := h
  clear h
  go_enter Try.func3, Try.ntmps3
  go_wp2_with fail
  refine (zzS a0 _ _ H.out).mono ?_
  rintro e w' ⟨rfl, rfl⟩
  go_wp2_with fail
  refine (zzS a0 _ _ H.out).mono ?_
  rintro e w' ⟨rfl, rfl⟩
  go_wp2
  go_ret
  exact ⟨rfl, by repeat (first | exact Grown.refl _ | apply Grown.drew | apply Grown.alloc)⟩
set_option maxHeartbeats 400000 in
theorem walk4G (a0 : Int) (w : World) (h1 : 880 ≤ a0) (h2 : a0 ≤ 8254) (h : nameRune.isG a0) :
    Calls Try.prog 3 #[.int .i32 a0] w fun e w' => e = .returned (.bool true) ∧ Grown w w' := by
  have f0 : (a0 == 183) = false := by simp; omega
  have f1 : decide (768 ≤ a0) = true := by simp; omega
  have f2 : decide (a0 ≤ 879) = false := by simp; omega
  have f3 : decide (8255 ≤ a0) = false := by simp; omega
  have H : Hid (nameRune.isG a0) := h
  clear h
  go_enter Try.func3, Try.ntmps3
  go_wp2_with fail
  refine (zzG a0 _ _ H.out).mono ?_
  rintro e w' ⟨rfl, rfl⟩
  go_wp2_with fail
  refine (zzG a0 _ _ H.out).mono ?_
  rintro e w' ⟨rfl, rfl⟩
  go_wp2
  go_ret
  exact ⟨rfl, by repeat (first | exact Grown.refl _ | apply Grown.drew | apply Grown.alloc)⟩
set_option maxHeartbeats 400000 in
theorem walk5C (a0 : Int) (w : World) (h1 : 8255 ≤ a0) (h2 : a0 ≤ 8256) (h : nameRune.isC a0) :
    Calls Try.prog 3 #[.int .i32 a0] w fun e w' => e = .returned (.bool true) ∧ Grown w w' := by
  have f0 : (a0 == 183) = false := by simp; omega
  have f1 : decide (768 ≤ a0) = true := by simp; omega
  have f2 : decide (a0 ≤ 879) = false := by simp; omega
  have f3 : decide (8255 ≤ a0) = true := by simp; omega
  have f4 : decide (a0 ≤ 8256) = true := by simp; omega
  have H : Hid (nameRune.isC a0) := h
  clear h
  go_enter Try.func3, Try.ntmps3
  go_wp2_with fail
  refine (zzC a0 _ _ H.out).mono ?_
  rintro e w' ⟨rfl, rfl⟩
  go_wp2_with fail
  refine (zzC a0 _ _ H.out).mono ?_
  rintro e w' ⟨rfl, rfl⟩
  go_wp2
  go_ret
  exact ⟨rfl, by repeat (first | exact Grown.refl _ | apply Grown.drew | apply Grown.alloc)⟩
set_option maxHeartbeats 400000 in
theorem walk6S (a0 : Int) (w : World) (h1 : 8257 ≤ a0) (h : nameRune.isS a0) :
    Calls Try.prog 3 #[.int .i32 a0] w fun e w' => e = .returned (.bool true) ∧ Grown w w' := by
  have f0 : (a0 == 183) = false := by simp; omega
  have f1 : decide (768 ≤ a0) = true := by simp; omega
  have f2 : decide (a0 ≤ 879) = false := by simp; omega
  have f3 : decide (8255 ≤ a0) = true := by simp; omega
  have f4 : decide (a0 ≤ 8256) = false := by simp; omega
  have H : Hid (nameRune.isS a0) := h
  clear h
  go_enter Try.func3, Try.ntmps3
  go_wp2_with fail
  refine (zzS a0 _ _ H.out).mono ?_
  rintro e w' ⟨rfl, rfl⟩
  go_wp2_with fail
  refine (zzS a0 _ _ H.out).mono ?_
  rintro e w' ⟨rfl, rfl⟩
  go_wp2
  go_ret
  exact ⟨rfl, by repeat (first | exact Grown.refl _ | apply Grown.drew | apply Grown.alloc)⟩
set_option maxHeartbeats 400000 in
theorem walk6G (a0 : Int) (w : World) (h1 : 8257 ≤ a0) (h : nameRune.isG a0) :
    Calls Try.prog 3 #[.int .i32 a0] w fun e w' => e = .returned (.bool true) ∧ Grown w w' := by
  have f0 : (a0 == 183) = false := by simp; omega
  have f1 : decide (768 ≤ a0) = true := by simp; omega
  have f2 : decide (a0 ≤ 879) = false := by simp; omega
  have f3 : decide (8255 ≤ a0) = true := by simp; omega
  have f4 : decide (a0 ≤ 8256) = false := by simp; omega
  have H : Hid (nameRune.isG a0) := h
  clear h
  go_enter Try.func3, Try.ntmps3
  go_wp2_with fail
  refine (zzG a0 _ _ H.out).mono ?_
  rintro e w' ⟨rfl, rfl⟩
  go_wp2_with fail
  refine (zzG a0 _ _ H.out).mono ?_
  rintro e w' ⟨rfl, rfl⟩
  go_wp2
  go_ret
  exact ⟨rfl, by repeat (first | exact Grown.refl _ | apply Grown.drew | apply Grown.alloc)⟩
theorem walk (a0 : Int) (w0 : (Lit.int .i32 a0).wf = true) (w : World) :
    Calls Try.prog 3 #[.int .i32 a0] w fun e w' => e = .returned (.bool true) ∧ Grown w w' := by
  have hr : a0 ≤ 182 ∨ (183 ≤ a0 ∧ a0 ≤ 183) ∨ (184 ≤ a0 ∧ a0 ≤ 767) ∨ (768 ≤ a0 ∧ a0 ≤ 879) ∨ (880 ≤ a0 ∧ a0 ≤ 8254) ∨ (8255 ≤ a0 ∧ a0 ≤ 8256) ∨ 8257 ≤ a0 := by omega
  rcases nameRune.all a0 with h | h | h
  · have h' := h
    unfold nameRune.isS at h'
    rcases hr with h1 | ⟨h1, h2⟩ | ⟨h1, h2⟩ | ⟨h1, h2⟩ | ⟨h1, h2⟩ | ⟨h1, h2⟩ | h1
    · exact walk0S a0 w h1 h
    · omega
    · exact walk2S a0 w h1 h2 h
    · omega
    · exact walk4S a0 w h1 h2 h
    · omega
    · exact walk6S a0 w h1 h
  · have h' := h
    unfold nameRune.isC at h'
    rcases h' with ⟨h1, h2⟩ | ⟨h1, h2⟩ | ⟨h1, h2⟩
    · exact walk1C a0 w h1 h2 h
    · exact walk3C a0 w h1 h2 h
    · exact walk5C a0 w h1 h2 h
  · have h' := h
    unfold nameRune.isG at h'
    rcases hr with h1 | ⟨h1, h2⟩ | ⟨h1, h2⟩ | ⟨h1, h2⟩ | ⟨h1, h2⟩ | ⟨h1, h2⟩ | h1
    · exact walk0G a0 w h1 h
    · omega
    · exact walk2G a0 w h1 h2 h
    · omega
    · exact walk4G a0 w h1 h2 h
    · omega
    · exact walk6G a0 w h1 h

/-! ### THE ROW's STEP: WRITTEN OUT: LEAVE IT -/
set_option maxRecDepth 100000 in
theorem lifted (os : Os) (started : os.Started) (H : Type) (enc : TypeId × Value → H) :
    ReturnsInHanded {} Try.checked os 3 .any (Rows.fnNameRuneStartImpliesNameSpec.pre6 enc Try.prog Try.f3 Rows.fnNameRuneStartImpliesNameRow.domain false) (Rows.fnNameRuneStartImpliesNameSpec.post enc Try.prog Try.f3 false true false false) := by
  refine returnsInHanded_of_change (C := Try.checked) own started (by kernel_rfl) Try.func3
    (ChangeSpec.witness6 (enc := enc) (C := Try.checked) false ⟨#[], #[.int .i32 0], []⟩ 8 (by kernel_rfl) (by kernel_rfl) (by kernel_rfl) (by kernel_rfl)) ?_
  intro W base args ds gs before hval0 hW hcnd _
  have hval : ∀ (j : Nat) t v, Try.f3.params[j]? = some t → args[j]? = some v → Value.okWide Try.prog W .any base t v := hval0
  have hW' := hW
  obtain ⟨p, q, hA0, hV, rfl, hfz, hnd⟩ := hW
  have hA : DataW.TrodAll enc Try.prog W 0 (fun _ => true) true Try.f3.params.toList args.toList ds p := hA0
  rw [Try.params3] at hA hval
  obtain ⟨v0, vs0, d0, ds0, p0, q0, hargs, rfl, rfl, h0, r0⟩ := trodAll_cons hA
  obtain ⟨rfl, rfl, rfl⟩ := trodAll_nil r0
  obtain rfl : args = #[v0] := by cases args; simp_all
  obtain ⟨rfl, rfl⟩ := trodVars_none hV
  obtain ⟨a0, rfl, rfl, rfl, w0⟩ := open_int Try.underlying21 (hval 0 21 v0 rfl rfl) h0
  clear hA0 hval0
  simp only [List.append_nil] at hW'
  refine (walk a0 w0 W).mono fun e W' ⟨he, hg⟩ => ?_
  subst he
  exact ⟨_, rfl, post_of_same (pa := []) (pv := []) hW' (fun _ _ _ => (trodAll_cons_mk (shut_bool Try.underlying4 _) trodAll_mk0)) (fun sp _ => (trodAll_cons_mk (shut_int Try.underlying21 w0) trodAll_mk0)) (fun _ _ => rfl) rfl
    (hg.frame _) hg.2.1 (ok_one (by kernel_rfl) rfl (okWide_bool_mk Try.underlying4 _))⟩

theorem over : Rows.fnNameRuneStartImpliesNameRow.holds Try.pinned (OpenSpec.ofChange Rows.fnNameRuneStartImpliesNameSpec) :=
  OpenClaim.holds_of_wide 3 Try.f3 rfl rfl rfl rfl rfl rfl rfl ⟨rfl, rfl, rfl, rfl, rfl⟩ rfl rfl rfl rfl rfl (by kernel_rfl) Try.func3 (by kernel_rfl)
    (of_decide_eq_true (by kernel_rfl)) (by unfold Func.isWrapper; first | (rw [if_pos (by decide +kernel)]; kernel_rfl) | (rw [if_neg (by decide +kernel)]; exact ⟨rfl, rfl⟩))
    (fun os started H enc _ => lifted os started H enc)

/-- ████ THE STATEMENT ████ -/
theorem proved : Rows.FnNameRuneStartImpliesNameSaid :=
  over
end Go.Proofs.Qxb6603823a.fnNameRuneStartImpliesName
