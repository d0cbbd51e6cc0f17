/- The proof of Rows.FnShortDecimalModelSaid; its frame is the given shell. -/
import Derived.Test.Qxb6604205aRows
import Derived.WalkKit
import Derived.ProofKit
import Derived.OpenShut
import Derived.ShutString
import Derived.ChangeOld
import Derived.Below
import Derived.Test.Qxb6604205aModel
namespace Go.Proofs.Qxb6604205a.fnShortDecimalModel
open Go.ChangeShapes Go.WideShapes Go.ChangeAt Go.RowKit
open Go.ChangeMaps (open_string shut_string)
set_option linter.unusedVariables false

theorem own : ownKnob Try.prog.godebug = none := by kernel_rfl
theorem laidOut : laidOutB Try.prog = true := by kernel_rfl

/-- WHAT THE WALK IS TOLD OF A SLICE OF INTEGERS THAT CAME IN: it is nil; or it leads to a row of 'cap' cells, the numbers 'zs' (the first 'len' are its elements, the rest its spare room), each fitting its kind. -/
def IsRow (k : IntKind) (w : World) (a : Option Addr) (len cap : Nat) (zs : List Int) : Prop :=
  (a = none ∧ len = 0 ∧ cap = 0 ∧ zs = []) ∨
  ∃ x, a = some x ∧ len ≤ cap ∧ cap ≤ maxLen ∧ zs.length = cap ∧ (∀ i, i < zs.length → w.cell? (x.add i) = some (.int k (zs.getD i 0))) ∧ ∀ n ∈ zs, (Lit.int k n).wf = true

open Go.Proofs.Qxb6604205a.plain Go.Proofs.Qxb6604205a.short Go.Proofs.Qxb6604205a.model Go.Proofs.Qxb6604205a.base

/-- A call that returns v and leaves the world as it is: a name of its own, so that the walk leaves it shut. -/
def Gives (f : FuncId) (args : Array Value) (w : World) (v : Value) : Prop := Calls Try.prog f args w fun e w' => e = .returned v ∧ w' = w
theorem Gives.out {f : FuncId} {args : Array Value} {w : World} {v : Value} (h : Gives f args w v) : Calls Try.prog f args w fun e w' => e = .returned v ∧ w' = w := h

theorem pick_l {f : FuncId} {args : Array Value} {w : World} {u v : Value} {p q : Prop} (h : Calls Try.prog f args w fun e w' => w' = w ∧ ((e = .returned u ∧ p) ∨ (e = .returned v ∧ q))) (hq : ¬ q) : Gives f args w u :=
  h.mono fun e w' ⟨hw, ho⟩ => by
    rcases ho with ⟨h1, _⟩ | ⟨_, h2⟩
    · exact ⟨h1, hw⟩
    · exact absurd h2 hq
theorem pick_r {f : FuncId} {args : Array Value} {w : World} {u v : Value} {p q : Prop} (h : Calls Try.prog f args w fun e w' => w' = w ∧ ((e = .returned u ∧ p) ∨ (e = .returned v ∧ q))) (hp : ¬ p) : Gives f args w v :=
  h.mono fun e w' ⟨hw, ho⟩ => by
    rcases ho with ⟨_, h1⟩ | ⟨h2, _⟩
    · exact absurd h1 hp
    · exact ⟨h2, hw⟩
theorem pick_n {f : FuncId} {args : Array Value} {w : World} {v : Value} (h : Calls Try.prog f args w fun e w' => w' = w ∧ e = .returned v) : Gives f args w v :=
  h.mono fun e w' ⟨hw, he⟩ => ⟨he, hw⟩

theorem no_bad {g : Nat → Int} {m : Nat} (h : ∀ i, i < m → dig (g i) = true) : ¬ ∃ i, i < m ∧ dig (g i) = false := by
  rintro ⟨i, h1, h2⟩
  rw [h i h1] at h2
  cases h2

theorem both (b off n c : Nat) (f : Nat → Int) (w : World) (h1 : 1 ≤ n) (hx : n ≤ 1048576) (hnc : n ≤ c) (hr : ∀ i, 0 ≤ f i ∧ f i ≤ 255) (hc : ∀ i, i < n → w.cell? ⟨b, off + i, none⟩ = some (.int .u8 (f i))) :
    ∃ (x : Int) (t : Bool), Gives 17 #[.slice (some ⟨b, off, none⟩) n c] w (.tuple #[.int .i64 x, .bool t]) ∧ Gives 9 #[.slice (some ⟨b, off, none⟩) n c] w (.tuple #[.int .i64 x, .bool t]) := by
  obtain ⟨m, rfl⟩ : ∃ m, n = m + 1 := ⟨n - 1, by omega⟩
  cases hp : (f 0 == 43)
  · cases hm : (f 0 == 45)
    · by_cases hl : m + 1 ≤ 18
      · have d1 := sd_plain b off (m + 1) c f w h1 hl hr hc hp hm
        have d2 := md_plain b off (m + 1) c f w h1 hl hr hc hp hm
        by_cases ha : ∀ i, i < m + 1 → dig (f i) = true
        · rw [same] at d2
          exact ⟨_, _, pick_l d1 (no_bad ha), pick_l d2 (no_bad ha)⟩
        · exact ⟨_, _, pick_r d1 ha, pick_r d2 ha⟩
      · exact ⟨_, _, pick_n (sd_long b off (m + 1) c f w (by omega) hc hp hm), pick_n (md_long b off (m + 1) c f w (by omega) (by omega) hc hp hm)⟩
    · by_cases hl : m ≤ 18
      · have d1 := sd_minus b off m c f w hl hnc hr hc hp hm
        have d2 := md_minus b off m c f w hl hr hc hp hm
        by_cases ha : ∀ i, i < m → dig (sh f i) = true
        · rw [same] at d2
          exact ⟨_, _, pick_l d1 (no_bad ha), pick_l d2 (no_bad ha)⟩
        · exact ⟨_, _, pick_r d1 ha, pick_r d2 ha⟩
      · exact ⟨_, _, pick_n (sd_long_minus b off m c f w (by omega) hnc hc hp hm), pick_n (md_long_minus b off m c f w (by omega) (by omega) hc hp hm)⟩
  · have e : f 0 = 43 := by simpa using hp
    have hm : (f 0 == 45) = false := by simp [e]
    by_cases hl : m ≤ 18
    · have d1 := sd_plus b off m c f w hl hnc hr hc hp hm
      have d2 := md_plus b off m c f w hl hr hc hp
      by_cases ha : ∀ i, i < m → dig (sh f i) = true
      · rw [same] at d2
        exact ⟨_, _, pick_l d1 (no_bad ha), pick_l d2 (no_bad ha)⟩
      · exact ⟨_, _, pick_r d1 ha, pick_r d2 ha⟩
    · exact ⟨_, _, pick_n (sd_long_plus b off m c f w (by omega) hnc hc hp), pick_n (md_long_plus b off m c f w (by omega) (by omega) hc hp)⟩

theorem zzshort (b off n c : Nat) (x : Int) (t : Bool) (w : World) (h : Gives 17 #[.slice (some ⟨b, off, none⟩) n c] w (.tuple #[.int .i64 x, .bool t])) :
    Gives 8 #[.slice (some ⟨b, off, none⟩) n c] w (.tuple #[.int .i64 x, .bool t]) := by
  unfold Gives
  go_enter Try.func8, Try.ntmps8
  go_wp2_with fail
  refine h.out.mono ?_
  rintro e w' ⟨rfl, rfl⟩
  go_wp2
  go_ret2
  exact ⟨rfl, rfl⟩

theorem walk_long (a : Option Addr) (n c : Nat) (w : World) (hn : 1048576 < n) :
    Calls Try.prog 3 #[.slice a n c] w fun e w' => e = .returned (.bool true) ∧ Below w.heap.size w w' := by
  go_enter Try.func3, Try.ntmps3
  go_wp2_with fail
  refine (bytes_no _ _ _ _ hn).mono ?_
  rintro e w' ⟨rfl, rfl⟩
  go_wp2
  go_ret
  exact ⟨rfl, Below.refl _ _⟩
theorem walk_empty (a : Option Addr) (c : Nat) (w : World) :
    Calls Try.prog 3 #[.slice a 0 c] w fun e w' => e = .returned (.bool true) ∧ Below w.heap.size w w' := by
  go_enter Try.func3, Try.ntmps3
  go_wp2_with fail
  refine (bytes_yes _ _ _ _ (Nat.zero_le _)).mono ?_
  rintro e w' ⟨rfl, rfl⟩
  go_wp2
  go_ret
  exact ⟨rfl, Below.refl _ _⟩
set_option maxHeartbeats 400000 in
theorem walk_some (b off n c : Nat) (f : Nat → Int) (w : World) (h1 : 1 ≤ n) (hx : n ≤ 1048576) (hr : ∀ i, 0 ≤ f i ∧ f i ≤ 255) (hc : ∀ i, i < n → w.cell? ⟨b, off + i, none⟩ = some (.int .u8 (f i))) :
    Calls Try.prog 3 #[.slice (some ⟨b, off, none⟩) n c] w fun e w' => e = .returned (.bool true) ∧ Below w.heap.size w w' := by
  have HC : Hid (∀ i, i < n → w.cell? ⟨b, off + i, none⟩ = some (.int .u8 (f i))) := hc
  have HR : Hid (∀ i, 0 ≤ f i ∧ f i ≤ 255) := hr
  clear hc hr
  go_enter Try.func3, Try.ntmps3
  go_wp2_with fail
  refine (bytes_yes _ _ _ _ hx).mono ?_
  rintro e w' ⟨rfl, rfl⟩
  go_wp2_with fail
  refine (clone_some _ _ _ _ f _ hx HC.out).mono ?_
  rintro e w1 ⟨rfl, hc1, hb1⟩
  obtain ⟨x, t, g1, g2⟩ := both w'.heap.size 0 n n f w1 h1 hx (Nat.le_refl _) HR.out (by simpa using hc1)
  have g0 := zzshort _ _ _ _ _ _ _ g1
  clear hc1
  go_wp2_with fail
  refine g0.out.mono ?_
  rintro e w2 ⟨rfl, rfl⟩
  go_wp2_with fail
  refine g2.out.mono ?_
  rintro e w3 ⟨rfl, rfl⟩
  go_wp2
  go_ret
  exact ⟨rfl, hb1⟩

theorem walk (a0 : Option Addr) (len0 cap0 : Nat) (z0 : List Int) (w : World) (w0 : IsRow .u8 w a0 len0 cap0 z0) :
    Calls Try.prog 3 #[.slice a0 len0 cap0] w fun e w' => e = .returned (.bool true) ∧ Below w.heap.size w w' := by
  by_cases hl : 1048576 < len0
  · exact walk_long _ _ _ _ hl
  by_cases hz : len0 = 0
  · subst hz
    exact walk_empty _ _ _
  rcases w0 with ⟨_, h, _, _⟩ | ⟨x, rfl, hlc, hm, hzl, hcell, hwf⟩
  · exact absurd h hz
  obtain ⟨b, off, sp⟩ := x
  have hspot : sp = none := by simpa [Addr.add] using World.cell?_spot (hcell 0 (by omega))
  subst hspot
  refine walk_some b off len0 cap0 (fun i => z0.getD i 0) w (by omega) (by omega) ?_ (fun i hi => by rw [← add_plain]; exact hcell i (by omega))
  intro i
  by_cases hi : i < z0.length
  · have := hwf (z0.getD i 0) (by simp [List.getD_eq_getElem?_getD, hi])
    have := bounds_u8 this
    exact this
  · simp [List.getD_eq_getElem?_getD, hi]

/-! ### THE ROW's STEP: WRITTEN OUT: LEAVE IT -/
set_option maxRecDepth 100000 in
theorem lifted (os : Os) (started : os.Started) (H : Type) (enc : TypeId × Value → H) :
    ReturnsInHanded {} Try.checked os 3 .any (Rows.fnShortDecimalModelSpec.pre6 enc Try.prog Try.f3 Rows.fnShortDecimalModelRow.domain false) (Rows.fnShortDecimalModelSpec.post enc Try.prog Try.f3 false true false false) := by
  refine returnsInHanded_of_change (C := Try.checked) own started (by kernel_rfl) Try.func3
    (ChangeSpec.witness6 (enc := enc) (C := Try.checked) false ⟨#[], #[.slice none 0 0], []⟩ 8 (by kernel_rfl) (by kernel_rfl) (by kernel_rfl) (by kernel_rfl)) ?_
  intro W base args ds gs before hval0 hW hcnd _
  have hval : ∀ (j : Nat) t v, Try.f3.params[j]? = some t → args[j]? = some v → Value.okWide Try.prog W .any base t v := hval0
  have hW' := hW
  obtain ⟨p, q, hA0, hV, rfl, hfz, hnd⟩ := hW
  have hA : DataW.TrodAll enc Try.prog W 0 (fun _ => true) true Try.f3.params.toList args.toList ds p := hA0
  rw [Try.params3] at hA hval
  obtain ⟨v0, vs0, d0, ds0, p0, q0, hargs, rfl, rfl, h0, r0⟩ := trodAll_cons hA
  obtain ⟨rfl, rfl, rfl⟩ := trodAll_nil r0
  obtain rfl : args = #[v0] := by cases args; simp_all
  obtain ⟨rfl, rfl⟩ := trodVars_none hV
  obtain ⟨a0, len0, cap0, rfl⟩ := okWide_slice Try.underlying22 (hval 0 22 v0 rfl rfl)
  have k0 := h0
  have lt0 : ∀ x ∈ p0, x.block < W.heap.size := by obtain ⟨m, hm⟩ := k0; exact DataW.trod_lt m _ _ _ hm
  obtain ⟨z0, w0⟩ : ∃ zs, IsRow .u8 W a0 len0 cap0 zs := by
    obtain ⟨fuel, hf⟩ := h0
    rcases open_ints Try.underlying22 Try.underlying5 (by kernel_rfl) hf with ⟨hcs, _⟩ | ⟨x, l, c, zs, hcs, _, hl, hm, hz, _, hcell, hwz⟩
    · simp [Value.cells] at hcs
      obtain ⟨rfl, rfl, rfl⟩ := hcs
      exact ⟨[], .inl ⟨rfl, rfl, rfl, rfl⟩⟩
    · simp [Value.cells] at hcs
      obtain ⟨rfl, rfl, rfl⟩ := hcs
      exact ⟨zs, .inr ⟨_, rfl, hl, hm, by simpa using hz, hcell, hwz⟩⟩
  clear hA0 hval0
  refine (walk a0 len0 cap0 z0 W w0).mono fun e W' ⟨he, bel⟩ => ?_
  subst he
  exact ⟨_, rfl, _, _, _, [], _, [], hW', trodAll_mk1 (shut_bool Try.underlying4 _), (trodAll_cons_mk (Below.trod laidOut (by kernel_rfl) (of_decide_eq_true (by kernel_rfl)) k0 bel lt0) trodAll_mk0), rfl, bel.frame _, fun h => by cases h⟩

theorem over : Rows.fnShortDecimalModelRow.holds Try.pinned (OpenSpec.ofChange Rows.fnShortDecimalModelSpec) :=
  OpenClaim.holds_of_wide 3 Try.f3 rfl rfl rfl rfl rfl rfl rfl ⟨rfl, rfl, rfl, rfl, rfl⟩ rfl rfl rfl rfl rfl (by kernel_rfl) Try.func3 (by kernel_rfl)
    (of_decide_eq_true (by kernel_rfl)) (by unfold Func.isWrapper; first | (rw [if_pos (by decide +kernel)]; kernel_rfl) | (rw [if_neg (by decide +kernel)]; exact ⟨rfl, rfl⟩))
    (fun os started H enc _ => lifted os started H enc)

/-- ████ THE STATEMENT ████ -/
theorem proved : Rows.FnShortDecimalModelSaid := over
end Go.Proofs.Qxb6604205a.fnShortDecimalModel
