import Derived.Test.Qxb6603823aRows
import Derived.WalkKit
import Derived.ProofKit
namespace Go.Proofs.Qxb6603823a.nameRune
open Go.ChangeShapes Go.WideShapes Go.ChangeAt Go.RowKit
set_option linter.unusedSimpArgs false

set_option maxHeartbeats 1000000 in
set_option maxRecDepth 10000 in
theorem nr0t (r : Int) (w : World) (h2 : r ≤ 182) :
    Calls Try.prog 12 #[.int .i32 r, .bool true] w fun e w' => e = .returned (.bool false) ∧ w' = w := by
  have f0 : decide (192 ≤ r) = false := by simp; omega
  have f1 : decide (216 ≤ r) = false := by simp; omega
  have f2 : decide (248 ≤ r) = false := by simp; omega
  have f3 : decide (880 ≤ r) = false := by simp; omega
  have f4 : decide (895 ≤ r) = false := by simp; omega
  have f5 : decide (8204 ≤ r) = false := by simp; omega
  have f6 : decide (8304 ≤ r) = false := by simp; omega
  have f7 : decide (11264 ≤ r) = false := by simp; omega
  have f8 : decide (12289 ≤ r) = false := by simp; omega
  have f9 : decide (63744 ≤ r) = false := by simp; omega
  have f10 : decide (65008 ≤ r) = false := by simp; omega
  have f11 : decide (65536 ≤ r) = false := by simp; omega
  go_enter Try.func12, Try.ntmps12
  dsimp only [List.append]
  go_wp2
  go_ret
  exact ⟨rfl, rfl⟩

set_option maxHeartbeats 1000000 in
set_option maxRecDepth 10000 in
theorem nr0f (r : Int) (w : World) (h2 : r ≤ 182) :
    Calls Try.prog 12 #[.int .i32 r, .bool false] w fun e w' => e = .returned (.bool false) ∧ w' = w := by
  have f0 : (r == 183) = false := by simp; omega
  have f1 : decide (768 ≤ r) = false := by simp; omega
  have f2 : decide (8255 ≤ r) = false := by simp; omega
  have f3 : decide (192 ≤ r) = false := by simp; omega
  have f4 : decide (216 ≤ r) = false := by simp; omega
  have f5 : decide (248 ≤ r) = false := by simp; omega
  have f6 : decide (880 ≤ r) = false := by simp; omega
  have f7 : decide (895 ≤ r) = false := by simp; omega
  have f8 : decide (8204 ≤ r) = false := by simp; omega
  have f9 : decide (8304 ≤ r) = false := by simp; omega
  have f10 : decide (11264 ≤ r) = false := by simp; omega
  have f11 : decide (12289 ≤ r) = false := by simp; omega
  have f12 : decide (63744 ≤ r) = false := by simp; omega
  have f13 : decide (65008 ≤ r) = false := by simp; omega
  have f14 : decide (65536 ≤ r) = false := by simp; omega
  go_enter Try.func12, Try.ntmps12
  dsimp only [List.append]
  go_wp2
  go_ret
  exact ⟨rfl, rfl⟩

set_option maxHeartbeats 1000000 in
set_option maxRecDepth 10000 in
theorem nr1t (r : Int) (w : World) (h1 : 183 ≤ r) (h2 : r ≤ 183) :
    Calls Try.prog 12 #[.int .i32 r, .bool true] w fun e w' => e = .returned (.bool false) ∧ w' = w := by
  have f0 : decide (192 ≤ r) = false := by simp; omega
  have f1 : decide (216 ≤ r) = false := by simp; omega
  have f2 : decide (248 ≤ r) = false := by simp; omega
  have f3 : decide (880 ≤ r) = false := by simp; omega
  have f4 : decide (895 ≤ r) = false := by simp; omega
  have f5 : decide (8204 ≤ r) = false := by simp; omega
  have f6 : decide (8304 ≤ r) = false := by simp; omega
  have f7 : decide (11264 ≤ r) = false := by simp; omega
  have f8 : decide (12289 ≤ r) = false := by simp; omega
  have f9 : decide (63744 ≤ r) = false := by simp; omega
  have f10 : decide (65008 ≤ r) = false := by simp; omega
  have f11 : decide (65536 ≤ r) = false := by simp; omega
  go_enter Try.func12, Try.ntmps12
  dsimp only [List.append]
  go_wp2
  go_ret
  exact ⟨rfl, rfl⟩

set_option maxHeartbeats 1000000 in
set_option maxRecDepth 10000 in
theorem nr1f (r : Int) (w : World) (h1 : 183 ≤ r) (h2 : r ≤ 183) :
    Calls Try.prog 12 #[.int .i32 r, .bool false] w fun e w' => e = .returned (.bool true) ∧ w' = w := by
  have f0 : (r == 183) = true := by simp; omega
  go_enter Try.func12, Try.ntmps12
  dsimp only [List.append]
  go_wp2
  go_ret
  exact ⟨rfl, rfl⟩

set_option maxHeartbeats 1000000 in
set_option maxRecDepth 10000 in
theorem nr2t (r : Int) (w : World) (h1 : 184 ≤ r) (h2 : r ≤ 191) :
    Calls Try.prog 12 #[.int .i32 r, .bool true] w fun e w' => e = .returned (.bool false) ∧ w' = w := by
  have f0 : decide (192 ≤ r) = false := by simp; omega
  have f1 : decide (216 ≤ r) = false := by simp; omega
  have f2 : decide (248 ≤ r) = false := by simp; omega
  have f3 : decide (880 ≤ r) = false := by simp; omega
  have f4 : decide (895 ≤ r) = false := by simp; omega
  have f5 : decide (8204 ≤ r) = false := by simp; omega
  have f6 : decide (8304 ≤ r) = false := by simp; omega
  have f7 : decide (11264 ≤ r) = false := by simp; omega
  have f8 : decide (12289 ≤ r) = false := by simp; omega
  have f9 : decide (63744 ≤ r) = false := by simp; omega
  have f10 : decide (65008 ≤ r) = false := by simp; omega
  have f11 : decide (65536 ≤ r) = false := by simp; omega
  go_enter Try.func12, Try.ntmps12
  dsimp only [List.append]
  go_wp2
  go_ret
  exact ⟨rfl, rfl⟩

set_option maxHeartbeats 1000000 in
set_option maxRecDepth 10000 in
theorem nr2f (r : Int) (w : World) (h1 : 184 ≤ r) (h2 : r ≤ 191) :
    Calls Try.prog 12 #[.int .i32 r, .bool false] w fun e w' => e = .returned (.bool false) ∧ w' = w := by
  have f0 : (r == 183) = false := by simp; omega
  have f1 : decide (768 ≤ r) = false := by simp; omega
  have f2 : decide (8255 ≤ r) = false := by simp; omega
  have f3 : decide (192 ≤ r) = false := by simp; omega
  have f4 : decide (216 ≤ r) = false := by simp; omega
  have f5 : decide (248 ≤ r) = false := by simp; omega
  have f6 : decide (880 ≤ r) = false := by simp; omega
  have f7 : decide (895 ≤ r) = false := by simp; omega
  have f8 : decide (8204 ≤ r) = false := by simp; omega
  have f9 : decide (8304 ≤ r) = false := by simp; omega
  have f10 : decide (11264 ≤ r) = false := by simp; omega
  have f11 : decide (12289 ≤ r) = false := by simp; omega
  have f12 : decide (63744 ≤ r) = false := by simp; omega
  have f13 : decide (65008 ≤ r) = false := by simp; omega
  have f14 : decide (65536 ≤ r) = false := by simp; omega
  go_enter Try.func12, Try.ntmps12
  dsimp only [List.append]
  go_wp2
  go_ret
  exact ⟨rfl, rfl⟩

set_option maxHeartbeats 1000000 in
set_option maxRecDepth 10000 in
theorem nr3t (r : Int) (w : World) (h1 : 192 ≤ r) (h2 : r ≤ 214) :
    Calls Try.prog 12 #[.int .i32 r, .bool true] w fun e w' => e = .returned (.bool true) ∧ w' = w := by
  have f0 : decide (192 ≤ r) = true := by simp; omega
  have f1 : decide (r ≤ 214) = true := by simp; omega
  go_enter Try.func12, Try.ntmps12
  dsimp only [List.append]
  go_wp2
  go_ret
  exact ⟨rfl, rfl⟩

set_option maxHeartbeats 1000000 in
set_option maxRecDepth 10000 in
theorem nr3f (r : Int) (w : World) (h1 : 192 ≤ r) (h2 : r ≤ 214) :
    Calls Try.prog 12 #[.int .i32 r, .bool false] w fun e w' => e = .returned (.bool true) ∧ w' = w := by
  have f0 : (r == 183) = false := by simp; omega
  have f1 : decide (768 ≤ r) = false := by simp; omega
  have f2 : decide (8255 ≤ r) = false := by simp; omega
  have f3 : decide (192 ≤ r) = true := by simp; omega
  have f4 : decide (r ≤ 214) = true := by simp; omega
  go_enter Try.func12, Try.ntmps12
  dsimp only [List.append]
  go_wp2
  go_ret
  exact ⟨rfl, rfl⟩

set_option maxHeartbeats 1000000 in
set_option maxRecDepth 10000 in
theorem nr4t (r : Int) (w : World) (h1 : 215 ≤ r) (h2 : r ≤ 215) :
    Calls Try.prog 12 #[.int .i32 r, .bool true] w fun e w' => e = .returned (.bool false) ∧ w' = w := by
  have f0 : decide (192 ≤ r) = true := by simp; omega
  have f1 : decide (r ≤ 214) = false := by simp; omega
  have f2 : decide (216 ≤ r) = false := by simp; omega
  have f3 : decide (248 ≤ r) = false := by simp; omega
  have f4 : decide (880 ≤ r) = false := by simp; omega
  have f5 : decide (895 ≤ r) = false := by simp; omega
  have f6 : decide (8204 ≤ r) = false := by simp; omega
  have f7 : decide (8304 ≤ r) = false := by simp; omega
  have f8 : decide (11264 ≤ r) = false := by simp; omega
  have f9 : decide (12289 ≤ r) = false := by simp; omega
  have f10 : decide (63744 ≤ r) = false := by simp; omega
  have f11 : decide (65008 ≤ r) = false := by simp; omega
  have f12 : decide (65536 ≤ r) = false := by simp; omega
  go_enter Try.func12, Try.ntmps12
  dsimp only [List.append]
  go_wp2
  go_ret
  exact ⟨rfl, rfl⟩

set_option maxHeartbeats 1000000 in
set_option maxRecDepth 10000 in
theorem nr4f (r : Int) (w : World) (h1 : 215 ≤ r) (h2 : r ≤ 215) :
    Calls Try.prog 12 #[.int .i32 r, .bool false] w fun e w' => e = .returned (.bool false) ∧ w' = w := by
  have f0 : (r == 183) = false := by simp; omega
  have f1 : decide (768 ≤ r) = false := by simp; omega
  have f2 : decide (8255 ≤ r) = false := by simp; omega
  have f3 : decide (192 ≤ r) = true := by simp; omega
  have f4 : decide (r ≤ 214) = false := by simp; omega
  have f5 : decide (216 ≤ r) = false := by simp; omega
  have f6 : decide (248 ≤ r) = false := by simp; omega
  have f7 : decide (880 ≤ r) = false := by simp; omega
  have f8 : decide (895 ≤ r) = false := by simp; omega
  have f9 : decide (8204 ≤ r) = false := by simp; omega
  have f10 : decide (8304 ≤ r) = false := by simp; omega
  have f11 : decide (11264 ≤ r) = false := by simp; omega
  have f12 : decide (12289 ≤ r) = false := by simp; omega
  have f13 : decide (63744 ≤ r) = false := by simp; omega
  have f14 : decide (65008 ≤ r) = false := by simp; omega
  have f15 : decide (65536 ≤ r) = false := by simp; omega
  go_enter Try.func12, Try.ntmps12
  dsimp only [List.append]
  go_wp2
  go_ret
  exact ⟨rfl, rfl⟩

set_option maxHeartbeats 1000000 in
set_option maxRecDepth 10000 in
theorem nr5t (r : Int) (w : World) (h1 : 216 ≤ r) (h2 : r ≤ 246) :
    Calls Try.prog 12 #[.int .i32 r, .bool true] w fun e w' => e = .returned (.bool true) ∧ w' = w := by
  have f0 : decide (192 ≤ r) = true := by simp; omega
  have f1 : decide (r ≤ 214) = false := by simp; omega
  have f2 : decide (216 ≤ r) = true := by simp; omega
  have f3 : decide (r ≤ 246) = true := by simp; omega
  go_enter Try.func12, Try.ntmps12
  dsimp only [List.append]
  go_wp2
  go_ret
  exact ⟨rfl, rfl⟩

set_option maxHeartbeats 1000000 in
set_option maxRecDepth 10000 in
theorem nr5f (r : Int) (w : World) (h1 : 216 ≤ r) (h2 : r ≤ 246) :
    Calls Try.prog 12 #[.int .i32 r, .bool false] w fun e w' => e = .returned (.bool true) ∧ w' = w := by
  have f0 : (r == 183) = false := by simp; omega
  have f1 : decide (768 ≤ r) = false := by simp; omega
  have f2 : decide (8255 ≤ r) = false := by simp; omega
  have f3 : decide (192 ≤ r) = true := by simp; omega
  have f4 : decide (r ≤ 214) = false := by simp; omega
  have f5 : decide (216 ≤ r) = true := by simp; omega
  have f6 : decide (r ≤ 246) = true := by simp; omega
  go_enter Try.func12, Try.ntmps12
  dsimp only [List.append]
  go_wp2
  go_ret
  exact ⟨rfl, rfl⟩

set_option maxHeartbeats 1000000 in
set_option maxRecDepth 10000 in
theorem nr6t (r : Int) (w : World) (h1 : 247 ≤ r) (h2 : r ≤ 247) :
    Calls Try.prog 12 #[.int .i32 r, .bool true] w fun e w' => e = .returned (.bool false) ∧ w' = w := by
  have f0 : decide (192 ≤ r) = true := by simp; omega
  have f1 : decide (r ≤ 214) = false := by simp; omega
  have f2 : decide (216 ≤ r) = true := by simp; omega
  have f3 : decide (r ≤ 246) = false := by simp; omega
  have f4 : decide (248 ≤ r) = false := by simp; omega
  have f5 : decide (880 ≤ r) = false := by simp; omega
  have f6 : decide (895 ≤ r) = false := by simp; omega
  have f7 : decide (8204 ≤ r) = false := by simp; omega
  have f8 : decide (8304 ≤ r) = false := by simp; omega
  have f9 : decide (11264 ≤ r) = false := by simp; omega
  have f10 : decide (12289 ≤ r) = false := by simp; omega
  have f11 : decide (63744 ≤ r) = false := by simp; omega
  have f12 : decide (65008 ≤ r) = false := by simp; omega
  have f13 : decide (65536 ≤ r) = false := by simp; omega
  go_enter Try.func12, Try.ntmps12
  dsimp only [List.append]
  go_wp2
  go_ret
  exact ⟨rfl, rfl⟩

set_option maxHeartbeats 1000000 in
set_option maxRecDepth 10000 in
theorem nr6f (r : Int) (w : World) (h1 : 247 ≤ r) (h2 : r ≤ 247) :
    Calls Try.prog 12 #[.int .i32 r, .bool false] w fun e w' => e = .returned (.bool false) ∧ w' = w := by
  have f0 : (r == 183) = false := by simp; omega
  have f1 : decide (768 ≤ r) = false := by simp; omega
  have f2 : decide (8255 ≤ r) = false := by simp; omega
  have f3 : decide (192 ≤ r) = true := by simp; omega
  have f4 : decide (r ≤ 214) = false := by simp; omega
  have f5 : decide (216 ≤ r) = true := by simp; omega
  have f6 : decide (r ≤ 246) = false := by simp; omega
  have f7 : decide (248 ≤ r) = false := by simp; omega
  have f8 : decide (880 ≤ r) = false := by simp; omega
  have f9 : decide (895 ≤ r) = false := by simp; omega
  have f10 : decide (8204 ≤ r) = false := by simp; omega
  have f11 : decide (8304 ≤ r) = false := by simp; omega
  have f12 : decide (11264 ≤ r) = false := by simp; omega
  have f13 : decide (12289 ≤ r) = false := by simp; omega
  have f14 : decide (63744 ≤ r) = false := by simp; omega
  have f15 : decide (65008 ≤ r) = false := by simp; omega
  have f16 : decide (65536 ≤ r) = false := by simp; omega
  go_enter Try.func12, Try.ntmps12
  dsimp only [List.append]
  go_wp2
  go_ret
  exact ⟨rfl, rfl⟩

set_option maxHeartbeats 1000000 in
set_option maxRecDepth 10000 in
theorem nr7t (r : Int) (w : World) (h1 : 248 ≤ r) (h2 : r ≤ 767) :
    Calls Try.prog 12 #[.int .i32 r, .bool true] w fun e w' => e = .returned (.bool true) ∧ w' = w := by
  have f0 : decide (192 ≤ r) = true := by simp; omega
  have f1 : decide (r ≤ 214) = false := by simp; omega
  have f2 : decide (216 ≤ r) = true := by simp; omega
  have f3 : decide (r ≤ 246) = false := by simp; omega
  have f4 : decide (248 ≤ r) = true := by simp; omega
  have f5 : decide (r ≤ 767) = true := by simp; omega
  go_enter Try.func12, Try.ntmps12
  dsimp only [List.append]
  go_wp2
  go_ret
  exact ⟨rfl, rfl⟩

set_option maxHeartbeats 1000000 in
set_option maxRecDepth 10000 in
theorem nr7f (r : Int) (w : World) (h1 : 248 ≤ r) (h2 : r ≤ 767) :
    Calls Try.prog 12 #[.int .i32 r, .bool false] w fun e w' => e = .returned (.bool true) ∧ w' = w := by
  have f0 : (r == 183) = false := by simp; omega
  have f1 : decide (768 ≤ r) = false := by simp; omega
  have f2 : decide (8255 ≤ r) = false := by simp; omega
  have f3 : decide (192 ≤ r) = true := by simp; omega
  have f4 : decide (r ≤ 214) = false := by simp; omega
  have f5 : decide (216 ≤ r) = true := by simp; omega
  have f6 : decide (r ≤ 246) = false := by simp; omega
  have f7 : decide (248 ≤ r) = true := by simp; omega
  have f8 : decide (r ≤ 767) = true := by simp; omega
  go_enter Try.func12, Try.ntmps12
  dsimp only [List.append]
  go_wp2
  go_ret
  exact ⟨rfl, rfl⟩

set_option maxHeartbeats 1000000 in
set_option maxRecDepth 10000 in
theorem nr8t (r : Int) (w : World) (h1 : 768 ≤ r) (h2 : r ≤ 879) :
    Calls Try.prog 12 #[.int .i32 r, .bool true] w fun e w' => e = .returned (.bool false) ∧ w' = w := by
  have f0 : decide (192 ≤ r) = true := by simp; omega
  have f1 : decide (r ≤ 214) = false := by simp; omega
  have f2 : decide (216 ≤ r) = true := by simp; omega
  have f3 : decide (r ≤ 246) = false := by simp; omega
  have f4 : decide (248 ≤ r) = true := by simp; omega
  have f5 : decide (r ≤ 767) = false := by simp; omega
  have f6 : decide (880 ≤ r) = false := by simp; omega
  have f7 : decide (895 ≤ r) = false := by simp; omega
  have f8 : decide (8204 ≤ r) = false := by simp; omega
  have f9 : decide (8304 ≤ r) = false := by simp; omega
  have f10 : decide (11264 ≤ r) = false := by simp; omega
  have f11 : decide (12289 ≤ r) = false := by simp; omega
  have f12 : decide (63744 ≤ r) = false := by simp; omega
  have f13 : decide (65008 ≤ r) = false := by simp; omega
  have f14 : decide (65536 ≤ r) = false := by simp; omega
  go_enter Try.func12, Try.ntmps12
  dsimp only [List.append]
  go_wp2
  go_ret
  exact ⟨rfl, rfl⟩

set_option maxHeartbeats 1000000 in
set_option maxRecDepth 10000 in
theorem nr8f (r : Int) (w : World) (h1 : 768 ≤ r) (h2 : r ≤ 879) :
    Calls Try.prog 12 #[.int .i32 r, .bool false] w fun e w' => e = .returned (.bool true) ∧ w' = w := by
  have f0 : (r == 183) = false := by simp; omega
  have f1 : decide (768 ≤ r) = true := by simp; omega
  have f2 : decide (r ≤ 879) = true := by simp; omega
  go_enter Try.func12, Try.ntmps12
  dsimp only [List.append]
  go_wp2
  go_ret
  exact ⟨rfl, rfl⟩

set_option maxHeartbeats 1000000 in
set_option maxRecDepth 10000 in
theorem nr9t (r : Int) (w : World) (h1 : 880 ≤ r) (h2 : r ≤ 893) :
    Calls Try.prog 12 #[.int .i32 r, .bool true] w fun e w' => e = .returned (.bool true) ∧ w' = w := by
  have f0 : decide (192 ≤ r) = true := by simp; omega
  have f1 : decide (r ≤ 214) = false := by simp; omega
  have f2 : decide (216 ≤ r) = true := by simp; omega
  have f3 : decide (r ≤ 246) = false := by simp; omega
  have f4 : decide (248 ≤ r) = true := by simp; omega
  have f5 : decide (r ≤ 767) = false := by simp; omega
  have f6 : decide (880 ≤ r) = true := by simp; omega
  have f7 : decide (r ≤ 893) = true := by simp; omega
  go_enter Try.func12, Try.ntmps12
  dsimp only [List.append]
  go_wp2
  go_ret
  exact ⟨rfl, rfl⟩

set_option maxHeartbeats 1000000 in
set_option maxRecDepth 10000 in
theorem nr9f (r : Int) (w : World) (h1 : 880 ≤ r) (h2 : r ≤ 893) :
    Calls Try.prog 12 #[.int .i32 r, .bool false] w fun e w' => e = .returned (.bool true) ∧ w' = w := by
  have f0 : (r == 183) = false := by simp; omega
  have f1 : decide (768 ≤ r) = true := by simp; omega
  have f2 : decide (r ≤ 879) = false := by simp; omega
  have f3 : decide (8255 ≤ r) = false := by simp; omega
  have f4 : decide (192 ≤ r) = true := by simp; omega
  have f5 : decide (r ≤ 214) = false := by simp; omega
  have f6 : decide (216 ≤ r) = true := by simp; omega
  have f7 : decide (r ≤ 246) = false := by simp; omega
  have f8 : decide (248 ≤ r) = true := by simp; omega
  have f9 : decide (r ≤ 767) = false := by simp; omega
  have f10 : decide (880 ≤ r) = true := by simp; omega
  have f11 : decide (r ≤ 893) = true := by simp; omega
  go_enter Try.func12, Try.ntmps12
  dsimp only [List.append]
  go_wp2
  go_ret
  exact ⟨rfl, rfl⟩

set_option maxHeartbeats 1000000 in
set_option maxRecDepth 10000 in
theorem nr10t (r : Int) (w : World) (h1 : 894 ≤ r) (h2 : r ≤ 894) :
    Calls Try.prog 12 #[.int .i32 r, .bool true] w fun e w' => e = .returned (.bool false) ∧ w' = w := by
  have f0 : decide (192 ≤ r) = true := by simp; omega
  have f1 : decide (r ≤ 214) = false := by simp; omega
  have f2 : decide (216 ≤ r) = true := by simp; omega
  have f3 : decide (r ≤ 246) = false := by simp; omega
  have f4 : decide (248 ≤ r) = true := by simp; omega
  have f5 : decide (r ≤ 767) = false := by simp; omega
  have f6 : decide (880 ≤ r) = true := by simp; omega
  have f7 : decide (r ≤ 893) = false := by simp; omega
  have f8 : decide (895 ≤ r) = false := by simp; omega
  have f9 : decide (8204 ≤ r) = false := by simp; omega
  have f10 : decide (8304 ≤ r) = false := by simp; omega
  have f11 : decide (11264 ≤ r) = false := by simp; omega
  have f12 : decide (12289 ≤ r) = false := by simp; omega
  have f13 : decide (63744 ≤ r) = false := by simp; omega
  have f14 : decide (65008 ≤ r) = false := by simp; omega
  have f15 : decide (65536 ≤ r) = false := by simp; omega
  go_enter Try.func12, Try.ntmps12
  dsimp only [List.append]
  go_wp2
  go_ret
  exact ⟨rfl, rfl⟩

set_option maxHeartbeats 1000000 in
set_option maxRecDepth 10000 in
theorem nr10f (r : Int) (w : World) (h1 : 894 ≤ r) (h2 : r ≤ 894) :
    Calls Try.prog 12 #[.int .i32 r, .bool false] w fun e w' => e = .returned (.bool false) ∧ w' = w := by
  have f0 : (r == 183) = false := by simp; omega
  have f1 : decide (768 ≤ r) = true := by simp; omega
  have f2 : decide (r ≤ 879) = false := by simp; omega
  have f3 : decide (8255 ≤ r) = false := by simp; omega
  have f4 : decide (192 ≤ r) = true := by simp; omega
  have f5 : decide (r ≤ 214) = false := by simp; omega
  have f6 : decide (216 ≤ r) = true := by simp; omega
  have f7 : decide (r ≤ 246) = false := by simp; omega
  have f8 : decide (248 ≤ r) = true := by simp; omega
  have f9 : decide (r ≤ 767) = false := by simp; omega
  have f10 : decide (880 ≤ r) = true := by simp; omega
  have f11 : decide (r ≤ 893) = false := by simp; omega
  have f12 : decide (895 ≤ r) = false := by simp; omega
  have f13 : decide (8204 ≤ r) = false := by simp; omega
  have f14 : decide (8304 ≤ r) = false := by simp; omega
  have f15 : decide (11264 ≤ r) = false := by simp; omega
  have f16 : decide (12289 ≤ r) = false := by simp; omega
  have f17 : decide (63744 ≤ r) = false := by simp; omega
  have f18 : decide (65008 ≤ r) = false := by simp; omega
  have f19 : decide (65536 ≤ r) = false := by simp; omega
  go_enter Try.func12, Try.ntmps12
  dsimp only [List.append]
  go_wp2
  go_ret
  exact ⟨rfl, rfl⟩

set_option maxHeartbeats 1000000 in
set_option maxRecDepth 10000 in
theorem nr11t (r : Int) (w : World) (h1 : 895 ≤ r) (h2 : r ≤ 8191) :
    Calls Try.prog 12 #[.int .i32 r, .bool true] w fun e w' => e = .returned (.bool true) ∧ w' = w := by
  have f0 : decide (192 ≤ r) = true := by simp; omega
  have f1 : decide (r ≤ 214) = false := by simp; omega
  have f2 : decide (216 ≤ r) = true := by simp; omega
  have f3 : decide (r ≤ 246) = false := by simp; omega
  have f4 : decide (248 ≤ r) = true := by simp; omega
  have f5 : decide (r ≤ 767) = false := by simp; omega
  have f6 : decide (880 ≤ r) = true := by simp; omega
  have f7 : decide (r ≤ 893) = false := by simp; omega
  have f8 : decide (895 ≤ r) = true := by simp; omega
  have f9 : decide (r ≤ 8191) = true := by simp; omega
  go_enter Try.func12, Try.ntmps12
  dsimp only [List.append]
  go_wp2
  go_ret
  exact ⟨rfl, rfl⟩

set_option maxHeartbeats 1000000 in
set_option maxRecDepth 10000 in
theorem nr11f (r : Int) (w : World) (h1 : 895 ≤ r) (h2 : r ≤ 8191) :
    Calls Try.prog 12 #[.int .i32 r, .bool false] w fun e w' => e = .returned (.bool true) ∧ w' = w := by
  have f0 : (r == 183) = false := by simp; omega
  have f1 : decide (768 ≤ r) = true := by simp; omega
  have f2 : decide (r ≤ 879) = false := by simp; omega
  have f3 : decide (8255 ≤ r) = false := by simp; omega
  have f4 : decide (192 ≤ r) = true := by simp; omega
  have f5 : decide (r ≤ 214) = false := by simp; omega
  have f6 : decide (216 ≤ r) = true := by simp; omega
  have f7 : decide (r ≤ 246) = false := by simp; omega
  have f8 : decide (248 ≤ r) = true := by simp; omega
  have f9 : decide (r ≤ 767) = false := by simp; omega
  have f10 : decide (880 ≤ r) = true := by simp; omega
  have f11 : decide (r ≤ 893) = false := by simp; omega
  have f12 : decide (895 ≤ r) = true := by simp; omega
  have f13 : decide (r ≤ 8191) = true := by simp; omega
  go_enter Try.func12, Try.ntmps12
  dsimp only [List.append]
  go_wp2
  go_ret
  exact ⟨rfl, rfl⟩

set_option maxHeartbeats 1000000 in
set_option maxRecDepth 10000 in
theorem nr12t (r : Int) (w : World) (h1 : 8192 ≤ r) (h2 : r ≤ 8203) :
    Calls Try.prog 12 #[.int .i32 r, .bool true] w fun e w' => e = .returned (.bool false) ∧ w' = w := by
  have f0 : decide (192 ≤ r) = true := by simp; omega
  have f1 : decide (r ≤ 214) = false := by simp; omega
  have f2 : decide (216 ≤ r) = true := by simp; omega
  have f3 : decide (r ≤ 246) = false := by simp; omega
  have f4 : decide (248 ≤ r) = true := by simp; omega
  have f5 : decide (r ≤ 767) = false := by simp; omega
  have f6 : decide (880 ≤ r) = true := by simp; omega
  have f7 : decide (r ≤ 893) = false := by simp; omega
  have f8 : decide (895 ≤ r) = true := by simp; omega
  have f9 : decide (r ≤ 8191) = false := by simp; omega
  have f10 : decide (8204 ≤ r) = false := by simp; omega
  have f11 : decide (8304 ≤ r) = false := by simp; omega
  have f12 : decide (11264 ≤ r) = false := by simp; omega
  have f13 : decide (12289 ≤ r) = false := by simp; omega
  have f14 : decide (63744 ≤ r) = false := by simp; omega
  have f15 : decide (65008 ≤ r) = false := by simp; omega
  have f16 : decide (65536 ≤ r) = false := by simp; omega
  go_enter Try.func12, Try.ntmps12
  dsimp only [List.append]
  go_wp2
  go_ret
  exact ⟨rfl, rfl⟩

set_option maxHeartbeats 1000000 in
set_option maxRecDepth 10000 in
theorem nr12f (r : Int) (w : World) (h1 : 8192 ≤ r) (h2 : r ≤ 8203) :
    Calls Try.prog 12 #[.int .i32 r, .bool false] w fun e w' => e = .returned (.bool false) ∧ w' = w := by
  have f0 : (r == 183) = false := by simp; omega
  have f1 : decide (768 ≤ r) = true := by simp; omega
  have f2 : decide (r ≤ 879) = false := by simp; omega
  have f3 : decide (8255 ≤ r) = false := by simp; omega
  have f4 : decide (192 ≤ r) = true := by simp; omega
  have f5 : decide (r ≤ 214) = false := by simp; omega
  have f6 : decide (216 ≤ r) = true := by simp; omega
  have f7 : decide (r ≤ 246) = false := by simp; omega
  have f8 : decide (248 ≤ r) = true := by simp; omega
  have f9 : decide (r ≤ 767) = false := by simp; omega
  have f10 : decide (880 ≤ r) = true := by simp; omega
  have f11 : decide (r ≤ 893) = false := by simp; omega
  have f12 : decide (895 ≤ r) = true := by simp; omega
  have f13 : decide (r ≤ 8191) = false := by simp; omega
  have f14 : decide (8204 ≤ r) = false := by simp; omega
  have f15 : decide (8304 ≤ r) = false := by simp; omega
  have f16 : decide (11264 ≤ r) = false := by simp; omega
  have f17 : decide (12289 ≤ r) = false := by simp; omega
  have f18 : decide (63744 ≤ r) = false := by simp; omega
  have f19 : decide (65008 ≤ r) = false := by simp; omega
  have f20 : decide (65536 ≤ r) = false := by simp; omega
  go_enter Try.func12, Try.ntmps12
  dsimp only [List.append]
  go_wp2
  go_ret
  exact ⟨rfl, rfl⟩

set_option maxHeartbeats 1000000 in
set_option maxRecDepth 10000 in
theorem nr13t (r : Int) (w : World) (h1 : 8204 ≤ r) (h2 : r ≤ 8205) :
    Calls Try.prog 12 #[.int .i32 r, .bool true] w fun e w' => e = .returned (.bool true) ∧ w' = w := by
  have f0 : decide (192 ≤ r) = true := by simp; omega
  have f1 : decide (r ≤ 214) = false := by simp; omega
  have f2 : decide (216 ≤ r) = true := by simp; omega
  have f3 : decide (r ≤ 246) = false := by simp; omega
  have f4 : decide (248 ≤ r) = true := by simp; omega
  have f5 : decide (r ≤ 767) = false := by simp; omega
  have f6 : decide (880 ≤ r) = true := by simp; omega
  have f7 : decide (r ≤ 893) = false := by simp; omega
  have f8 : decide (895 ≤ r) = true := by simp; omega
  have f9 : decide (r ≤ 8191) = false := by simp; omega
  have f10 : decide (8204 ≤ r) = true := by simp; omega
  have f11 : decide (r ≤ 8205) = true := by simp; omega
  go_enter Try.func12, Try.ntmps12
  dsimp only [List.append]
  go_wp2
  go_ret
  exact ⟨rfl, rfl⟩

set_option maxHeartbeats 1000000 in
set_option maxRecDepth 10000 in
theorem nr13f (r : Int) (w : World) (h1 : 8204 ≤ r) (h2 : r ≤ 8205) :
    Calls Try.prog 12 #[.int .i32 r, .bool false] w fun e w' => e = .returned (.bool true) ∧ w' = w := by
  have f0 : (r == 183) = false := by simp; omega
  have f1 : decide (768 ≤ r) = true := by simp; omega
  have f2 : decide (r ≤ 879) = false := by simp; omega
  have f3 : decide (8255 ≤ r) = false := by simp; omega
  have f4 : decide (192 ≤ r) = true := by simp; omega
  have f5 : decide (r ≤ 214) = false := by simp; omega
  have f6 : decide (216 ≤ r) = true := by simp; omega
  have f7 : decide (r ≤ 246) = false := by simp; omega
  have f8 : decide (248 ≤ r) = true := by simp; omega
  have f9 : decide (r ≤ 767) = false := by simp; omega
  have f10 : decide (880 ≤ r) = true := by simp; omega
  have f11 : decide (r ≤ 893) = false := by simp; omega
  have f12 : decide (895 ≤ r) = true := by simp; omega
  have f13 : decide (r ≤ 8191) = false := by simp; omega
  have f14 : decide (8204 ≤ r) = true := by simp; omega
  have f15 : decide (r ≤ 8205) = true := by simp; omega
  go_enter Try.func12, Try.ntmps12
  dsimp only [List.append]
  go_wp2
  go_ret
  exact ⟨rfl, rfl⟩

set_option maxHeartbeats 1000000 in
set_option maxRecDepth 10000 in
theorem nr14t (r : Int) (w : World) (h1 : 8206 ≤ r) (h2 : r ≤ 8254) :
    Calls Try.prog 12 #[.int .i32 r, .bool true] w fun e w' => e = .returned (.bool false) ∧ w' = w := by
  have f0 : decide (192 ≤ r) = true := by simp; omega
  have f1 : decide (r ≤ 214) = false := by simp; omega
  have f2 : decide (216 ≤ r) = true := by simp; omega
  have f3 : decide (r ≤ 246) = false := by simp; omega
  have f4 : decide (248 ≤ r) = true := by simp; omega
  have f5 : decide (r ≤ 767) = false := by simp; omega
  have f6 : decide (880 ≤ r) = true := by simp; omega
  have f7 : decide (r ≤ 893) = false := by simp; omega
  have f8 : decide (895 ≤ r) = true := by simp; omega
  have f9 : decide (r ≤ 8191) = false := by simp; omega
  have f10 : decide (8204 ≤ r) = true := by simp; omega
  have f11 : decide (r ≤ 8205) = false := by simp; omega
  have f12 : decide (8304 ≤ r) = false := by simp; omega
  have f13 : decide (11264 ≤ r) = false := by simp; omega
  have f14 : decide (12289 ≤ r) = false := by simp; omega
  have f15 : decide (63744 ≤ r) = false := by simp; omega
  have f16 : decide (65008 ≤ r) = false := by simp; omega
  have f17 : decide (65536 ≤ r) = false := by simp; omega
  go_enter Try.func12, Try.ntmps12
  dsimp only [List.append]
  go_wp2
  go_ret
  exact ⟨rfl, rfl⟩

set_option maxHeartbeats 1000000 in
set_option maxRecDepth 10000 in
theorem nr14f (r : Int) (w : World) (h1 : 8206 ≤ r) (h2 : r ≤ 8254) :
    Calls Try.prog 12 #[.int .i32 r, .bool false] w fun e w' => e = .returned (.bool false) ∧ w' = w := by
  have f0 : (r == 183) = false := by simp; omega
  have f1 : decide (768 ≤ r) = true := by simp; omega
  have f2 : decide (r ≤ 879) = false := by simp; omega
  have f3 : decide (8255 ≤ r) = false := by simp; omega
  have f4 : decide (192 ≤ r) = true := by simp; omega
  have f5 : decide (r ≤ 214) = false := by simp; omega
  have f6 : decide (216 ≤ r) = true := by simp; omega
  have f7 : decide (r ≤ 246) = false := by simp; omega
  have f8 : decide (248 ≤ r) = true := by simp; omega
  have f9 : decide (r ≤ 767) = false := by simp; omega
  have f10 : decide (880 ≤ r) = true := by simp; omega
  have f11 : decide (r ≤ 893) = false := by simp; omega
  have f12 : decide (895 ≤ r) = true := by simp; omega
  have f13 : decide (r ≤ 8191) = false := by simp; omega
  have f14 : decide (8204 ≤ r) = true := by simp; omega
  have f15 : decide (r ≤ 8205) = false := by simp; omega
  have f16 : decide (8304 ≤ r) = false := by simp; omega
  have f17 : decide (11264 ≤ r) = false := by simp; omega
  have f18 : decide (12289 ≤ r) = false := by simp; omega
  have f19 : decide (63744 ≤ r) = false := by simp; omega
  have f20 : decide (65008 ≤ r) = false := by simp; omega
  have f21 : decide (65536 ≤ r) = false := by simp; omega
  go_enter Try.func12, Try.ntmps12
  dsimp only [List.append]
  go_wp2
  go_ret
  exact ⟨rfl, rfl⟩

set_option maxHeartbeats 1000000 in
set_option maxRecDepth 10000 in
theorem nr15t (r : Int) (w : World) (h1 : 8255 ≤ r) (h2 : r ≤ 8256) :
    Calls Try.prog 12 #[.int .i32 r, .bool true] w fun e w' => e = .returned (.bool false) ∧ w' = w := by
  have f0 : decide (192 ≤ r) = true := by simp; omega
  have f1 : decide (r ≤ 214) = false := by simp; omega
  have f2 : decide (216 ≤ r) = true := by simp; omega
  have f3 : decide (r ≤ 246) = false := by simp; omega
  have f4 : decide (248 ≤ r) = true := by simp; omega
  have f5 : decide (r ≤ 767) = false := by simp; omega
  have f6 : decide (880 ≤ r) = true := by simp; omega
  have f7 : decide (r ≤ 893) = false := by simp; omega
  have f8 : decide (895 ≤ r) = true := by simp; omega
  have f9 : decide (r ≤ 8191) = false := by simp; omega
  have f10 : decide (8204 ≤ r) = true := by simp; omega
  have f11 : decide (r ≤ 8205) = false := by simp; omega
  have f12 : decide (8304 ≤ r) = false := by simp; omega
  have f13 : decide (11264 ≤ r) = false := by simp; omega
  have f14 : decide (12289 ≤ r) = false := by simp; omega
  have f15 : decide (63744 ≤ r) = false := by simp; omega
  have f16 : decide (65008 ≤ r) = false := by simp; omega
  have f17 : decide (65536 ≤ r) = false := by simp; omega
  go_enter Try.func12, Try.ntmps12
  dsimp only [List.append]
  go_wp2
  go_ret
  exact ⟨rfl, rfl⟩

set_option maxHeartbeats 1000000 in
set_option maxRecDepth 10000 in
theorem nr15f (r : Int) (w : World) (h1 : 8255 ≤ r) (h2 : r ≤ 8256) :
    Calls Try.prog 12 #[.int .i32 r, .bool false] w fun e w' => e = .returned (.bool true) ∧ w' = w := by
  have f0 : (r == 183) = false := by simp; omega
  have f1 : decide (768 ≤ r) = true := by simp; omega
  have f2 : decide (r ≤ 879) = false := by simp; omega
  have f3 : decide (8255 ≤ r) = true := by simp; omega
  have f4 : decide (r ≤ 8256) = true := by simp; omega
  go_enter Try.func12, Try.ntmps12
  dsimp only [List.append]
  go_wp2
  go_ret
  exact ⟨rfl, rfl⟩

set_option maxHeartbeats 1000000 in
set_option maxRecDepth 10000 in
theorem nr16t (r : Int) (w : World) (h1 : 8257 ≤ r) (h2 : r ≤ 8303) :
    Calls Try.prog 12 #[.int .i32 r, .bool true] w fun e w' => e = .returned (.bool false) ∧ w' = w := by
  have f0 : decide (192 ≤ r) = true := by simp; omega
  have f1 : decide (r ≤ 214) = false := by simp; omega
  have f2 : decide (216 ≤ r) = true := by simp; omega
  have f3 : decide (r ≤ 246) = false := by simp; omega
  have f4 : decide (248 ≤ r) = true := by simp; omega
  have f5 : decide (r ≤ 767) = false := by simp; omega
  have f6 : decide (880 ≤ r) = true := by simp; omega
  have f7 : decide (r ≤ 893) = false := by simp; omega
  have f8 : decide (895 ≤ r) = true := by simp; omega
  have f9 : decide (r ≤ 8191) = false := by simp; omega
  have f10 : decide (8204 ≤ r) = true := by simp; omega
  have f11 : decide (r ≤ 8205) = false := by simp; omega
  have f12 : decide (8304 ≤ r) = false := by simp; omega
  have f13 : decide (11264 ≤ r) = false := by simp; omega
  have f14 : decide (12289 ≤ r) = false := by simp; omega
  have f15 : decide (63744 ≤ r) = false := by simp; omega
  have f16 : decide (65008 ≤ r) = false := by simp; omega
  have f17 : decide (65536 ≤ r) = false := by simp; omega
  go_enter Try.func12, Try.ntmps12
  dsimp only [List.append]
  go_wp2
  go_ret
  exact ⟨rfl, rfl⟩

set_option maxHeartbeats 1000000 in
set_option maxRecDepth 10000 in
theorem nr16f (r : Int) (w : World) (h1 : 8257 ≤ r) (h2 : r ≤ 8303) :
    Calls Try.prog 12 #[.int .i32 r, .bool false] w fun e w' => e = .returned (.bool false) ∧ w' = w := by
  have f0 : (r == 183) = false := by simp; omega
  have f1 : decide (768 ≤ r) = true := by simp; omega
  have f2 : decide (r ≤ 879) = false := by simp; omega
  have f3 : decide (8255 ≤ r) = true := by simp; omega
  have f4 : decide (r ≤ 8256) = false := by simp; omega
  have f5 : decide (192 ≤ r) = true := by simp; omega
  have f6 : decide (r ≤ 214) = false := by simp; omega
  have f7 : decide (216 ≤ r) = true := by simp; omega
  have f8 : decide (r ≤ 246) = false := by simp; omega
  have f9 : decide (248 ≤ r) = true := by simp; omega
  have f10 : decide (r ≤ 767) = false := by simp; omega
  have f11 : decide (880 ≤ r) = true := by simp; omega
  have f12 : decide (r ≤ 893) = false := by simp; omega
  have f13 : decide (895 ≤ r) = true := by simp; omega
  have f14 : decide (r ≤ 8191) = false := by simp; omega
  have f15 : decide (8204 ≤ r) = true := by simp; omega
  have f16 : decide (r ≤ 8205) = false := by simp; omega
  have f17 : decide (8304 ≤ r) = false := by simp; omega
  have f18 : decide (11264 ≤ r) = false := by simp; omega
  have f19 : decide (12289 ≤ r) = false := by simp; omega
  have f20 : decide (63744 ≤ r) = false := by simp; omega
  have f21 : decide (65008 ≤ r) = false := by simp; omega
  have f22 : decide (65536 ≤ r) = false := by simp; omega
  go_enter Try.func12, Try.ntmps12
  dsimp only [List.append]
  go_wp2
  go_ret
  exact ⟨rfl, rfl⟩

set_option maxHeartbeats 1000000 in
set_option maxRecDepth 10000 in
theorem nr17t (r : Int) (w : World) (h1 : 8304 ≤ r) (h2 : r ≤ 8591) :
    Calls Try.prog 12 #[.int .i32 r, .bool true] w fun e w' => e = .returned (.bool true) ∧ w' = w := by
  have f0 : decide (192 ≤ r) = true := by simp; omega
  have f1 : decide (r ≤ 214) = false := by simp; omega
  have f2 : decide (216 ≤ r) = true := by simp; omega
  have f3 : decide (r ≤ 246) = false := by simp; omega
  have f4 : decide (248 ≤ r) = true := by simp; omega
  have f5 : decide (r ≤ 767) = false := by simp; omega
  have f6 : decide (880 ≤ r) = true := by simp; omega
  have f7 : decide (r ≤ 893) = false := by simp; omega
  have f8 : decide (895 ≤ r) = true := by simp; omega
  have f9 : decide (r ≤ 8191) = false := by simp; omega
  have f10 : decide (8204 ≤ r) = true := by simp; omega
  have f11 : decide (r ≤ 8205) = false := by simp; omega
  have f12 : decide (8304 ≤ r) = true := by simp; omega
  have f13 : decide (r ≤ 8591) = true := by simp; omega
  go_enter Try.func12, Try.ntmps12
  dsimp only [List.append]
  go_wp2
  go_ret
  exact ⟨rfl, rfl⟩

set_option maxHeartbeats 1000000 in
set_option maxRecDepth 10000 in
theorem nr17f (r : Int) (w : World) (h1 : 8304 ≤ r) (h2 : r ≤ 8591) :
    Calls Try.prog 12 #[.int .i32 r, .bool false] w fun e w' => e = .returned (.bool true) ∧ w' = w := by
  have f0 : (r == 183) = false := by simp; omega
  have f1 : decide (768 ≤ r) = true := by simp; omega
  have f2 : decide (r ≤ 879) = false := by simp; omega
  have f3 : decide (8255 ≤ r) = true := by simp; omega
  have f4 : decide (r ≤ 8256) = false := by simp; omega
  have f5 : decide (192 ≤ r) = true := by simp; omega
  have f6 : decide (r ≤ 214) = false := by simp; omega
  have f7 : decide (216 ≤ r) = true := by simp; omega
  have f8 : decide (r ≤ 246) = false := by simp; omega
  have f9 : decide (248 ≤ r) = true := by simp; omega
  have f10 : decide (r ≤ 767) = false := by simp; omega
  have f11 : decide (880 ≤ r) = true := by simp; omega
  have f12 : decide (r ≤ 893) = false := by simp; omega
  have f13 : decide (895 ≤ r) = true := by simp; omega
  have f14 : decide (r ≤ 8191) = false := by simp; omega
  have f15 : decide (8204 ≤ r) = true := by simp; omega
  have f16 : decide (r ≤ 8205) = false := by simp; omega
  have f17 : decide (8304 ≤ r) = true := by simp; omega
  have f18 : decide (r ≤ 8591) = true := by simp; omega
  go_enter Try.func12, Try.ntmps12
  dsimp only [List.append]
  go_wp2
  go_ret
  exact ⟨rfl, rfl⟩

set_option maxHeartbeats 1000000 in
set_option maxRecDepth 10000 in
theorem nr18t (r : Int) (w : World) (h1 : 8592 ≤ r) (h2 : r ≤ 11263) :
    Calls Try.prog 12 #[.int .i32 r, .bool true] w fun e w' => e = .returned (.bool false) ∧ w' = w := by
  have f0 : decide (192 ≤ r) = true := by simp; omega
  have f1 : decide (r ≤ 214) = false := by simp; omega
  have f2 : decide (216 ≤ r) = true := by simp; omega
  have f3 : decide (r ≤ 246) = false := by simp; omega
  have f4 : decide (248 ≤ r) = true := by simp; omega
  have f5 : decide (r ≤ 767) = false := by simp; omega
  have f6 : decide (880 ≤ r) = true := by simp; omega
  have f7 : decide (r ≤ 893) = false := by simp; omega
  have f8 : decide (895 ≤ r) = true := by simp; omega
  have f9 : decide (r ≤ 8191) = false := by simp; omega
  have f10 : decide (8204 ≤ r) = true := by simp; omega
  have f11 : decide (r ≤ 8205) = false := by simp; omega
  have f12 : decide (8304 ≤ r) = true := by simp; omega
  have f13 : decide (r ≤ 8591) = false := by simp; omega
  have f14 : decide (11264 ≤ r) = false := by simp; omega
  have f15 : decide (12289 ≤ r) = false := by simp; omega
  have f16 : decide (63744 ≤ r) = false := by simp; omega
  have f17 : decide (65008 ≤ r) = false := by simp; omega
  have f18 : decide (65536 ≤ r) = false := by simp; omega
  go_enter Try.func12, Try.ntmps12
  dsimp only [List.append]
  go_wp2
  go_ret
  exact ⟨rfl, rfl⟩

set_option maxHeartbeats 1000000 in
set_option maxRecDepth 10000 in
theorem nr18f (r : Int) (w : World) (h1 : 8592 ≤ r) (h2 : r ≤ 11263) :
    Calls Try.prog 12 #[.int .i32 r, .bool false] w fun e w' => e = .returned (.bool false) ∧ w' = w := by
  have f0 : (r == 183) = false := by simp; omega
  have f1 : decide (768 ≤ r) = true := by simp; omega
  have f2 : decide (r ≤ 879) = false := by simp; omega
  have f3 : decide (8255 ≤ r) = true := by simp; omega
  have f4 : decide (r ≤ 8256) = false := by simp; omega
  have f5 : decide (192 ≤ r) = true := by simp; omega
  have f6 : decide (r ≤ 214) = false := by simp; omega
  have f7 : decide (216 ≤ r) = true := by simp; omega
  have f8 : decide (r ≤ 246) = false := by simp; omega
  have f9 : decide (248 ≤ r) = true := by simp; omega
  have f10 : decide (r ≤ 767) = false := by simp; omega
  have f11 : decide (880 ≤ r) = true := by simp; omega
  have f12 : decide (r ≤ 893) = false := by simp; omega
  have f13 : decide (895 ≤ r) = true := by simp; omega
  have f14 : decide (r ≤ 8191) = false := by simp; omega
  have f15 : decide (8204 ≤ r) = true := by simp; omega
  have f16 : decide (r ≤ 8205) = false := by simp; omega
  have f17 : decide (8304 ≤ r) = true := by simp; omega
  have f18 : decide (r ≤ 8591) = false := by simp; omega
  have f19 : decide (11264 ≤ r) = false := by simp; omega
  have f20 : decide (12289 ≤ r) = false := by simp; omega
  have f21 : decide (63744 ≤ r) = false := by simp; omega
  have f22 : decide (65008 ≤ r) = false := by simp; omega
  have f23 : decide (65536 ≤ r) = false := by simp; omega
  go_enter Try.func12, Try.ntmps12
  dsimp only [List.append]
  go_wp2
  go_ret
  exact ⟨rfl, rfl⟩

set_option maxHeartbeats 1000000 in
set_option maxRecDepth 10000 in
theorem nr19t (r : Int) (w : World) (h1 : 11264 ≤ r) (h2 : r ≤ 12271) :
    Calls Try.prog 12 #[.int .i32 r, .bool true] w fun e w' => e = .returned (.bool true) ∧ w' = w := by
  have f0 : decide (192 ≤ r) = true := by simp; omega
  have f1 : decide (r ≤ 214) = false := by simp; omega
  have f2 : decide (216 ≤ r) = true := by simp; omega
  have f3 : decide (r ≤ 246) = false := by simp; omega
  have f4 : decide (248 ≤ r) = true := by simp; omega
  have f5 : decide (r ≤ 767) = false := by simp; omega
  have f6 : decide (880 ≤ r) = true := by simp; omega
  have f7 : decide (r ≤ 893) = false := by simp; omega
  have f8 : decide (895 ≤ r) = true := by simp; omega
  have f9 : decide (r ≤ 8191) = false := by simp; omega
  have f10 : decide (8204 ≤ r) = true := by simp; omega
  have f11 : decide (r ≤ 8205) = false := by simp; omega
  have f12 : decide (8304 ≤ r) = true := by simp; omega
  have f13 : decide (r ≤ 8591) = false := by simp; omega
  have f14 : decide (11264 ≤ r) = true := by simp; omega
  have f15 : decide (r ≤ 12271) = true := by simp; omega
  go_enter Try.func12, Try.ntmps12
  dsimp only [List.append]
  go_wp2
  go_ret
  exact ⟨rfl, rfl⟩

set_option maxHeartbeats 1000000 in
set_option maxRecDepth 10000 in
theorem nr19f (r : Int) (w : World) (h1 : 11264 ≤ r) (h2 : r ≤ 12271) :
    Calls Try.prog 12 #[.int .i32 r, .bool false] w fun e w' => e = .returned (.bool true) ∧ w' = w := by
  have f0 : (r == 183) = false := by simp; omega
  have f1 : decide (768 ≤ r) = true := by simp; omega
  have f2 : decide (r ≤ 879) = false := by simp; omega
  have f3 : decide (8255 ≤ r) = true := by simp; omega
  have f4 : decide (r ≤ 8256) = false := by simp; omega
  have f5 : decide (192 ≤ r) = true := by simp; omega
  have f6 : decide (r ≤ 214) = false := by simp; omega
  have f7 : decide (216 ≤ r) = true := by simp; omega
  have f8 : decide (r ≤ 246) = false := by simp; omega
  have f9 : decide (248 ≤ r) = true := by simp; omega
  have f10 : decide (r ≤ 767) = false := by simp; omega
  have f11 : decide (880 ≤ r) = true := by simp; omega
  have f12 : decide (r ≤ 893) = false := by simp; omega
  have f13 : decide (895 ≤ r) = true := by simp; omega
  have f14 : decide (r ≤ 8191) = false := by simp; omega
  have f15 : decide (8204 ≤ r) = true := by simp; omega
  have f16 : decide (r ≤ 8205) = false := by simp; omega
  have f17 : decide (8304 ≤ r) = true := by simp; omega
  have f18 : decide (r ≤ 8591) = false := by simp; omega
  have f19 : decide (11264 ≤ r) = true := by simp; omega
  have f20 : decide (r ≤ 12271) = true := by simp; omega
  go_enter Try.func12, Try.ntmps12
  dsimp only [List.append]
  go_wp2
  go_ret
  exact ⟨rfl, rfl⟩

set_option maxHeartbeats 1000000 in
set_option maxRecDepth 10000 in
theorem nr20t (r : Int) (w : World) (h1 : 12272 ≤ r) (h2 : r ≤ 12288) :
    Calls Try.prog 12 #[.int .i32 r, .bool true] w fun e w' => e = .returned (.bool false) ∧ w' = w := by
  have f0 : decide (192 ≤ r) = true := by simp; omega
  have f1 : decide (r ≤ 214) = false := by simp; omega
  have f2 : decide (216 ≤ r) = true := by simp; omega
  have f3 : decide (r ≤ 246) = false := by simp; omega
  have f4 : decide (248 ≤ r) = true := by simp; omega
  have f5 : decide (r ≤ 767) = false := by simp; omega
  have f6 : decide (880 ≤ r) = true := by simp; omega
  have f7 : decide (r ≤ 893) = false := by simp; omega
  have f8 : decide (895 ≤ r) = true := by simp; omega
  have f9 : decide (r ≤ 8191) = false := by simp; omega
  have f10 : decide (8204 ≤ r) = true := by simp; omega
  have f11 : decide (r ≤ 8205) = false := by simp; omega
  have f12 : decide (8304 ≤ r) = true := by simp; omega
  have f13 : decide (r ≤ 8591) = false := by simp; omega
  have f14 : decide (11264 ≤ r) = true := by simp; omega
  have f15 : decide (r ≤ 12271) = false := by simp; omega
  have f16 : decide (12289 ≤ r) = false := by simp; omega
  have f17 : decide (63744 ≤ r) = false := by simp; omega
  have f18 : decide (65008 ≤ r) = false := by simp; omega
  have f19 : decide (65536 ≤ r) = false := by simp; omega
  go_enter Try.func12, Try.ntmps12
  dsimp only [List.append]
  go_wp2
  go_ret
  exact ⟨rfl, rfl⟩

set_option maxHeartbeats 1000000 in
set_option maxRecDepth 10000 in
theorem nr20f (r : Int) (w : World) (h1 : 12272 ≤ r) (h2 : r ≤ 12288) :
    Calls Try.prog 12 #[.int .i32 r, .bool false] w fun e w' => e = .returned (.bool false) ∧ w' = w := by
  have f0 : (r == 183) = false := by simp; omega
  have f1 : decide (768 ≤ r) = true := by simp; omega
  have f2 : decide (r ≤ 879) = false := by simp; omega
  have f3 : decide (8255 ≤ r) = true := by simp; omega
  have f4 : decide (r ≤ 8256) = false := by simp; omega
  have f5 : decide (192 ≤ r) = true := by simp; omega
  have f6 : decide (r ≤ 214) = false := by simp; omega
  have f7 : decide (216 ≤ r) = true := by simp; omega
  have f8 : decide (r ≤ 246) = false := by simp; omega
  have f9 : decide (248 ≤ r) = true := by simp; omega
  have f10 : decide (r ≤ 767) = false := by simp; omega
  have f11 : decide (880 ≤ r) = true := by simp; omega
  have f12 : decide (r ≤ 893) = false := by simp; omega
  have f13 : decide (895 ≤ r) = true := by simp; omega
  have f14 : decide (r ≤ 8191) = false := by simp; omega
  have f15 : decide (8204 ≤ r) = true := by simp; omega
  have f16 : decide (r ≤ 8205) = false := by simp; omega
  have f17 : decide (8304 ≤ r) = true := by simp; omega
  have f18 : decide (r ≤ 8591) = false := by simp; omega
  have f19 : decide (11264 ≤ r) = true := by simp; omega
  have f20 : decide (r ≤ 12271) = false := by simp; omega
  have f21 : decide (12289 ≤ r) = false := by simp; omega
  have f22 : decide (63744 ≤ r) = false := by simp; omega
  have f23 : decide (65008 ≤ r) = false := by simp; omega
  have f24 : decide (65536 ≤ r) = false := by simp; omega
  go_enter Try.func12, Try.ntmps12
  dsimp only [List.append]
  go_wp2
  go_ret
  exact ⟨rfl, rfl⟩

set_option maxHeartbeats 1000000 in
set_option maxRecDepth 10000 in
theorem nr21t (r : Int) (w : World) (h1 : 12289 ≤ r) (h2 : r ≤ 55295) :
    Calls Try.prog 12 #[.int .i32 r, .bool true] w fun e w' => e = .returned (.bool true) ∧ w' = w := by
  have f0 : decide (192 ≤ r) = true := by simp; omega
  have f1 : decide (r ≤ 214) = false := by simp; omega
  have f2 : decide (216 ≤ r) = true := by simp; omega
  have f3 : decide (r ≤ 246) = false := by simp; omega
  have f4 : decide (248 ≤ r) = true := by simp; omega
  have f5 : decide (r ≤ 767) = false := by simp; omega
  have f6 : decide (880 ≤ r) = true := by simp; omega
  have f7 : decide (r ≤ 893) = false := by simp; omega
  have f8 : decide (895 ≤ r) = true := by simp; omega
  have f9 : decide (r ≤ 8191) = false := by simp; omega
  have f10 : decide (8204 ≤ r) = true := by simp; omega
  have f11 : decide (r ≤ 8205) = false := by simp; omega
  have f12 : decide (8304 ≤ r) = true := by simp; omega
  have f13 : decide (r ≤ 8591) = false := by simp; omega
  have f14 : decide (11264 ≤ r) = true := by simp; omega
  have f15 : decide (r ≤ 12271) = false := by simp; omega
  have f16 : decide (12289 ≤ r) = true := by simp; omega
  have f17 : decide (r ≤ 55295) = true := by simp; omega
  go_enter Try.func12, Try.ntmps12
  dsimp only [List.append]
  go_wp2
  go_ret
  exact ⟨rfl, rfl⟩

set_option maxHeartbeats 1000000 in
set_option maxRecDepth 10000 in
theorem nr21f (r : Int) (w : World) (h1 : 12289 ≤ r) (h2 : r ≤ 55295) :
    Calls Try.prog 12 #[.int .i32 r, .bool false] w fun e w' => e = .returned (.bool true) ∧ w' = w := by
  have f0 : (r == 183) = false := by simp; omega
  have f1 : decide (768 ≤ r) = true := by simp; omega
  have f2 : decide (r ≤ 879) = false := by simp; omega
  have f3 : decide (8255 ≤ r) = true := by simp; omega
  have f4 : decide (r ≤ 8256) = false := by simp; omega
  have f5 : decide (192 ≤ r) = true := by simp; omega
  have f6 : decide (r ≤ 214) = false := by simp; omega
  have f7 : decide (216 ≤ r) = true := by simp; omega
  have f8 : decide (r ≤ 246) = false := by simp; omega
  have f9 : decide (248 ≤ r) = true := by simp; omega
  have f10 : decide (r ≤ 767) = false := by simp; omega
  have f11 : decide (880 ≤ r) = true := by simp; omega
  have f12 : decide (r ≤ 893) = false := by simp; omega
  have f13 : decide (895 ≤ r) = true := by simp; omega
  have f14 : decide (r ≤ 8191) = false := by simp; omega
  have f15 : decide (8204 ≤ r) = true := by simp; omega
  have f16 : decide (r ≤ 8205) = false := by simp; omega
  have f17 : decide (8304 ≤ r) = true := by simp; omega
  have f18 : decide (r ≤ 8591) = false := by simp; omega
  have f19 : decide (11264 ≤ r) = true := by simp; omega
  have f20 : decide (r ≤ 12271) = false := by simp; omega
  have f21 : decide (12289 ≤ r) = true := by simp; omega
  have f22 : decide (r ≤ 55295) = true := by simp; omega
  go_enter Try.func12, Try.ntmps12
  dsimp only [List.append]
  go_wp2
  go_ret
  exact ⟨rfl, rfl⟩

set_option maxHeartbeats 1000000 in
set_option maxRecDepth 10000 in
theorem nr22t (r : Int) (w : World) (h1 : 55296 ≤ r) (h2 : r ≤ 63743) :
    Calls Try.prog 12 #[.int .i32 r, .bool true] w fun e w' => e = .returned (.bool false) ∧ w' = w := by
  have f0 : decide (192 ≤ r) = true := by simp; omega
  have f1 : decide (r ≤ 214) = false := by simp; omega
  have f2 : decide (216 ≤ r) = true := by simp; omega
  have f3 : decide (r ≤ 246) = false := by simp; omega
  have f4 : decide (248 ≤ r) = true := by simp; omega
  have f5 : decide (r ≤ 767) = false := by simp; omega
  have f6 : decide (880 ≤ r) = true := by simp; omega
  have f7 : decide (r ≤ 893) = false := by simp; omega
  have f8 : decide (895 ≤ r) = true := by simp; omega
  have f9 : decide (r ≤ 8191) = false := by simp; omega
  have f10 : decide (8204 ≤ r) = true := by simp; omega
  have f11 : decide (r ≤ 8205) = false := by simp; omega
  have f12 : decide (8304 ≤ r) = true := by simp; omega
  have f13 : decide (r ≤ 8591) = false := by simp; omega
  have f14 : decide (11264 ≤ r) = true := by simp; omega
  have f15 : decide (r ≤ 12271) = false := by simp; omega
  have f16 : decide (12289 ≤ r) = true := by simp; omega
  have f17 : decide (r ≤ 55295) = false := by simp; omega
  have f18 : decide (63744 ≤ r) = false := by simp; omega
  have f19 : decide (65008 ≤ r) = false := by simp; omega
  have f20 : decide (65536 ≤ r) = false := by simp; omega
  go_enter Try.func12, Try.ntmps12
  dsimp only [List.append]
  go_wp2
  go_ret
  exact ⟨rfl, rfl⟩

set_option maxHeartbeats 1000000 in
set_option maxRecDepth 10000 in
theorem nr22f (r : Int) (w : World) (h1 : 55296 ≤ r) (h2 : r ≤ 63743) :
    Calls Try.prog 12 #[.int .i32 r, .bool false] w fun e w' => e = .returned (.bool false) ∧ w' = w := by
  have f0 : (r == 183) = false := by simp; omega
  have f1 : decide (768 ≤ r) = true := by simp; omega
  have f2 : decide (r ≤ 879) = false := by simp; omega
  have f3 : decide (8255 ≤ r) = true := by simp; omega
  have f4 : decide (r ≤ 8256) = false := by simp; omega
  have f5 : decide (192 ≤ r) = true := by simp; omega
  have f6 : decide (r ≤ 214) = false := by simp; omega
  have f7 : decide (216 ≤ r) = true := by simp; omega
  have f8 : decide (r ≤ 246) = false := by simp; omega
  have f9 : decide (248 ≤ r) = true := by simp; omega
  have f10 : decide (r ≤ 767) = false := by simp; omega
  have f11 : decide (880 ≤ r) = true := by simp; omega
  have f12 : decide (r ≤ 893) = false := by simp; omega
  have f13 : decide (895 ≤ r) = true := by simp; omega
  have f14 : decide (r ≤ 8191) = false := by simp; omega
  have f15 : decide (8204 ≤ r) = true := by simp; omega
  have f16 : decide (r ≤ 8205) = false := by simp; omega
  have f17 : decide (8304 ≤ r) = true := by simp; omega
  have f18 : decide (r ≤ 8591) = false := by simp; omega
  have f19 : decide (11264 ≤ r) = true := by simp; omega
  have f20 : decide (r ≤ 12271) = false := by simp; omega
  have f21 : decide (12289 ≤ r) = true := by simp; omega
  have f22 : decide (r ≤ 55295) = false := by simp; omega
  have f23 : decide (63744 ≤ r) = false := by simp; omega
  have f24 : decide (65008 ≤ r) = false := by simp; omega
  have f25 : decide (65536 ≤ r) = false := by simp; omega
  go_enter Try.func12, Try.ntmps12
  dsimp only [List.append]
  go_wp2
  go_ret
  exact ⟨rfl, rfl⟩

set_option maxHeartbeats 1000000 in
set_option maxRecDepth 10000 in
theorem nr23t (r : Int) (w : World) (h1 : 63744 ≤ r) (h2 : r ≤ 64975) :
    Calls Try.prog 12 #[.int .i32 r, .bool true] w fun e w' => e = .returned (.bool true) ∧ w' = w := by
  have f0 : decide (192 ≤ r) = true := by simp; omega
  have f1 : decide (r ≤ 214) = false := by simp; omega
  have f2 : decide (216 ≤ r) = true := by simp; omega
  have f3 : decide (r ≤ 246) = false := by simp; omega
  have f4 : decide (248 ≤ r) = true := by simp; omega
  have f5 : decide (r ≤ 767) = false := by simp; omega
  have f6 : decide (880 ≤ r) = true := by simp; omega
  have f7 : decide (r ≤ 893) = false := by simp; omega
  have f8 : decide (895 ≤ r) = true := by simp; omega
  have f9 : decide (r ≤ 8191) = false := by simp; omega
  have f10 : decide (8204 ≤ r) = true := by simp; omega
  have f11 : decide (r ≤ 8205) = false := by simp; omega
  have f12 : decide (8304 ≤ r) = true := by simp; omega
  have f13 : decide (r ≤ 8591) = false := by simp; omega
  have f14 : decide (11264 ≤ r) = true := by simp; omega
  have f15 : decide (r ≤ 12271) = false := by simp; omega
  have f16 : decide (12289 ≤ r) = true := by simp; omega
  have f17 : decide (r ≤ 55295) = false := by simp; omega
  have f18 : decide (63744 ≤ r) = true := by simp; omega
  have f19 : decide (r ≤ 64975) = true := by simp; omega
  go_enter Try.func12, Try.ntmps12
  dsimp only [List.append]
  go_wp2
  go_ret
  exact ⟨rfl, rfl⟩

set_option maxHeartbeats 1000000 in
set_option maxRecDepth 10000 in
theorem nr23f (r : Int) (w : World) (h1 : 63744 ≤ r) (h2 : r ≤ 64975) :
    Calls Try.prog 12 #[.int .i32 r, .bool false] w fun e w' => e = .returned (.bool true) ∧ w' = w := by
  have f0 : (r == 183) = false := by simp; omega
  have f1 : decide (768 ≤ r) = true := by simp; omega
  have f2 : decide (r ≤ 879) = false := by simp; omega
  have f3 : decide (8255 ≤ r) = true := by simp; omega
  have f4 : decide (r ≤ 8256) = false := by simp; omega
  have f5 : decide (192 ≤ r) = true := by simp; omega
  have f6 : decide (r ≤ 214) = false := by simp; omega
  have f7 : decide (216 ≤ r) = true := by simp; omega
  have f8 : decide (r ≤ 246) = false := by simp; omega
  have f9 : decide (248 ≤ r) = true := by simp; omega
  have f10 : decide (r ≤ 767) = false := by simp; omega
  have f11 : decide (880 ≤ r) = true := by simp; omega
  have f12 : decide (r ≤ 893) = false := by simp; omega
  have f13 : decide (895 ≤ r) = true := by simp; omega
  have f14 : decide (r ≤ 8191) = false := by simp; omega
  have f15 : decide (8204 ≤ r) = true := by simp; omega
  have f16 : decide (r ≤ 8205) = false := by simp; omega
  have f17 : decide (8304 ≤ r) = true := by simp; omega
  have f18 : decide (r ≤ 8591) = false := by simp; omega
  have f19 : decide (11264 ≤ r) = true := by simp; omega
  have f20 : decide (r ≤ 12271) = false := by simp; omega
  have f21 : decide (12289 ≤ r) = true := by simp; omega
  have f22 : decide (r ≤ 55295) = false := by simp; omega
  have f23 : decide (63744 ≤ r) = true := by simp; omega
  have f24 : decide (r ≤ 64975) = true := by simp; omega
  go_enter Try.func12, Try.ntmps12
  dsimp only [List.append]
  go_wp2
  go_ret
  exact ⟨rfl, rfl⟩

set_option maxHeartbeats 1000000 in
set_option maxRecDepth 10000 in
theorem nr24t (r : Int) (w : World) (h1 : 64976 ≤ r) (h2 : r ≤ 65007) :
    Calls Try.prog 12 #[.int .i32 r, .bool true] w fun e w' => e = .returned (.bool false) ∧ w' = w := by
  have f0 : decide (192 ≤ r) = true := by simp; omega
  have f1 : decide (r ≤ 214) = false := by simp; omega
  have f2 : decide (216 ≤ r) = true := by simp; omega
  have f3 : decide (r ≤ 246) = false := by simp; omega
  have f4 : decide (248 ≤ r) = true := by simp; omega
  have f5 : decide (r ≤ 767) = false := by simp; omega
  have f6 : decide (880 ≤ r) = true := by simp; omega
  have f7 : decide (r ≤ 893) = false := by simp; omega
  have f8 : decide (895 ≤ r) = true := by simp; omega
  have f9 : decide (r ≤ 8191) = false := by simp; omega
  have f10 : decide (8204 ≤ r) = true := by simp; omega
  have f11 : decide (r ≤ 8205) = false := by simp; omega
  have f12 : decide (8304 ≤ r) = true := by simp; omega
  have f13 : decide (r ≤ 8591) = false := by simp; omega
  have f14 : decide (11264 ≤ r) = true := by simp; omega
  have f15 : decide (r ≤ 12271) = false := by simp; omega
  have f16 : decide (12289 ≤ r) = true := by simp; omega
  have f17 : decide (r ≤ 55295) = false := by simp; omega
  have f18 : decide (63744 ≤ r) = true := by simp; omega
  have f19 : decide (r ≤ 64975) = false := by simp; omega
  have f20 : decide (65008 ≤ r) = false := by simp; omega
  have f21 : decide (65536 ≤ r) = false := by simp; omega
  go_enter Try.func12, Try.ntmps12
  dsimp only [List.append]
  go_wp2
  go_ret
  exact ⟨rfl, rfl⟩

set_option maxHeartbeats 1000000 in
set_option maxRecDepth 10000 in
theorem nr24f (r : Int) (w : World) (h1 : 64976 ≤ r) (h2 : r ≤ 65007) :
    Calls Try.prog 12 #[.int .i32 r, .bool false] w fun e w' => e = .returned (.bool false) ∧ w' = w := by
  have f0 : (r == 183) = false := by simp; omega
  have f1 : decide (768 ≤ r) = true := by simp; omega
  have f2 : decide (r ≤ 879) = false := by simp; omega
  have f3 : decide (8255 ≤ r) = true := by simp; omega
  have f4 : decide (r ≤ 8256) = false := by simp; omega
  have f5 : decide (192 ≤ r) = true := by simp; omega
  have f6 : decide (r ≤ 214) = false := by simp; omega
  have f7 : decide (216 ≤ r) = true := by simp; omega
  have f8 : decide (r ≤ 246) = false := by simp; omega
  have f9 : decide (248 ≤ r) = true := by simp; omega
  have f10 : decide (r ≤ 767) = false := by simp; omega
  have f11 : decide (880 ≤ r) = true := by simp; omega
  have f12 : decide (r ≤ 893) = false := by simp; omega
  have f13 : decide (895 ≤ r) = true := by simp; omega
  have f14 : decide (r ≤ 8191) = false := by simp; omega
  have f15 : decide (8204 ≤ r) = true := by simp; omega
  have f16 : decide (r ≤ 8205) = false := by simp; omega
  have f17 : decide (8304 ≤ r) = true := by simp; omega
  have f18 : decide (r ≤ 8591) = false := by simp; omega
  have f19 : decide (11264 ≤ r) = true := by simp; omega
  have f20 : decide (r ≤ 12271) = false := by simp; omega
  have f21 : decide (12289 ≤ r) = true := by simp; omega
  have f22 : decide (r ≤ 55295) = false := by simp; omega
  have f23 : decide (63744 ≤ r) = true := by simp; omega
  have f24 : decide (r ≤ 64975) = false := by simp; omega
  have f25 : decide (65008 ≤ r) = false := by simp; omega
  have f26 : decide (65536 ≤ r) = false := by simp; omega
  go_enter Try.func12, Try.ntmps12
  dsimp only [List.append]
  go_wp2
  go_ret
  exact ⟨rfl, rfl⟩

set_option maxHeartbeats 1000000 in
set_option maxRecDepth 10000 in
theorem nr25t (r : Int) (w : World) (h1 : 65008 ≤ r) (h2 : r ≤ 65533) :
    Calls Try.prog 12 #[.int .i32 r, .bool true] w fun e w' => e = .returned (.bool true) ∧ w' = w := by
  have f0 : decide (192 ≤ r) = true := by simp; omega
  have f1 : decide (r ≤ 214) = false := by simp; omega
  have f2 : decide (216 ≤ r) = true := by simp; omega
  have f3 : decide (r ≤ 246) = false := by simp; omega
  have f4 : decide (248 ≤ r) = true := by simp; omega
  have f5 : decide (r ≤ 767) = false := by simp; omega
  have f6 : decide (880 ≤ r) = true := by simp; omega
  have f7 : decide (r ≤ 893) = false := by simp; omega
  have f8 : decide (895 ≤ r) = true := by simp; omega
  have f9 : decide (r ≤ 8191) = false := by simp; omega
  have f10 : decide (8204 ≤ r) = true := by simp; omega
  have f11 : decide (r ≤ 8205) = false := by simp; omega
  have f12 : decide (8304 ≤ r) = true := by simp; omega
  have f13 : decide (r ≤ 8591) = false := by simp; omega
  have f14 : decide (11264 ≤ r) = true := by simp; omega
  have f15 : decide (r ≤ 12271) = false := by simp; omega
  have f16 : decide (12289 ≤ r) = true := by simp; omega
  have f17 : decide (r ≤ 55295) = false := by simp; omega
  have f18 : decide (63744 ≤ r) = true := by simp; omega
  have f19 : decide (r ≤ 64975) = false := by simp; omega
  have f20 : decide (65008 ≤ r) = true := by simp; omega
  have f21 : decide (r ≤ 65533) = true := by simp; omega
  go_enter Try.func12, Try.ntmps12
  dsimp only [List.append]
  go_wp2
  go_ret
  exact ⟨rfl, rfl⟩

set_option maxHeartbeats 1000000 in
set_option maxRecDepth 10000 in
theorem nr25f (r : Int) (w : World) (h1 : 65008 ≤ r) (h2 : r ≤ 65533) :
    Calls Try.prog 12 #[.int .i32 r, .bool false] w fun e w' => e = .returned (.bool true) ∧ w' = w := by
  have f0 : (r == 183) = false := by simp; omega
  have f1 : decide (768 ≤ r) = true := by simp; omega
  have f2 : decide (r ≤ 879) = false := by simp; omega
  have f3 : decide (8255 ≤ r) = true := by simp; omega
  have f4 : decide (r ≤ 8256) = false := by simp; omega
  have f5 : decide (192 ≤ r) = true := by simp; omega
  have f6 : decide (r ≤ 214) = false := by simp; omega
  have f7 : decide (216 ≤ r) = true := by simp; omega
  have f8 : decide (r ≤ 246) = false := by simp; omega
  have f9 : decide (248 ≤ r) = true := by simp; omega
  have f10 : decide (r ≤ 767) = false := by simp; omega
  have f11 : decide (880 ≤ r) = true := by simp; omega
  have f12 : decide (r ≤ 893) = false := by simp; omega
  have f13 : decide (895 ≤ r) = true := by simp; omega
  have f14 : decide (r ≤ 8191) = false := by simp; omega
  have f15 : decide (8204 ≤ r) = true := by simp; omega
  have f16 : decide (r ≤ 8205) = false := by simp; omega
  have f17 : decide (8304 ≤ r) = true := by simp; omega
  have f18 : decide (r ≤ 8591) = false := by simp; omega
  have f19 : decide (11264 ≤ r) = true := by simp; omega
  have f20 : decide (r ≤ 12271) = false := by simp; omega
  have f21 : decide (12289 ≤ r) = true := by simp; omega
  have f22 : decide (r ≤ 55295) = false := by simp; omega
  have f23 : decide (63744 ≤ r) = true := by simp; omega
  have f24 : decide (r ≤ 64975) = false := by simp; omega
  have f25 : decide (65008 ≤ r) = true := by simp; omega
  have f26 : decide (r ≤ 65533) = true := by simp; omega
  go_enter Try.func12, Try.ntmps12
  dsimp only [List.append]
  go_wp2
  go_ret
  exact ⟨rfl, rfl⟩

set_option maxHeartbeats 1000000 in
set_option maxRecDepth 10000 in
theorem nr26t (r : Int) (w : World) (h1 : 65534 ≤ r) (h2 : r ≤ 65535) :
    Calls Try.prog 12 #[.int .i32 r, .bool true] w fun e w' => e = .returned (.bool false) ∧ w' = w := by
  have f0 : decide (192 ≤ r) = true := by simp; omega
  have f1 : decide (r ≤ 214) = false := by simp; omega
  have f2 : decide (216 ≤ r) = true := by simp; omega
  have f3 : decide (r ≤ 246) = false := by simp; omega
  have f4 : decide (248 ≤ r) = true := by simp; omega
  have f5 : decide (r ≤ 767) = false := by simp; omega
  have f6 : decide (880 ≤ r) = true := by simp; omega
  have f7 : decide (r ≤ 893) = false := by simp; omega
  have f8 : decide (895 ≤ r) = true := by simp; omega
  have f9 : decide (r ≤ 8191) = false := by simp; omega
  have f10 : decide (8204 ≤ r) = true := by simp; omega
  have f11 : decide (r ≤ 8205) = false := by simp; omega
  have f12 : decide (8304 ≤ r) = true := by simp; omega
  have f13 : decide (r ≤ 8591) = false := by simp; omega
  have f14 : decide (11264 ≤ r) = true := by simp; omega
  have f15 : decide (r ≤ 12271) = false := by simp; omega
  have f16 : decide (12289 ≤ r) = true := by simp; omega
  have f17 : decide (r ≤ 55295) = false := by simp; omega
  have f18 : decide (63744 ≤ r) = true := by simp; omega
  have f19 : decide (r ≤ 64975) = false := by simp; omega
  have f20 : decide (65008 ≤ r) = true := by simp; omega
  have f21 : decide (r ≤ 65533) = false := by simp; omega
  have f22 : decide (65536 ≤ r) = false := by simp; omega
  go_enter Try.func12, Try.ntmps12
  dsimp only [List.append]
  go_wp2
  go_ret
  exact ⟨rfl, rfl⟩

set_option maxHeartbeats 1000000 in
set_option maxRecDepth 10000 in
theorem nr26f (r : Int) (w : World) (h1 : 65534 ≤ r) (h2 : r ≤ 65535) :
    Calls Try.prog 12 #[.int .i32 r, .bool false] w fun e w' => e = .returned (.bool false) ∧ w' = w := by
  have f0 : (r == 183) = false := by simp; omega
  have f1 : decide (768 ≤ r) = true := by simp; omega
  have f2 : decide (r ≤ 879) = false := by simp; omega
  have f3 : decide (8255 ≤ r) = true := by simp; omega
  have f4 : decide (r ≤ 8256) = false := by simp; omega
  have f5 : decide (192 ≤ r) = true := by simp; omega
  have f6 : decide (r ≤ 214) = false := by simp; omega
  have f7 : decide (216 ≤ r) = true := by simp; omega
  have f8 : decide (r ≤ 246) = false := by simp; omega
  have f9 : decide (248 ≤ r) = true := by simp; omega
  have f10 : decide (r ≤ 767) = false := by simp; omega
  have f11 : decide (880 ≤ r) = true := by simp; omega
  have f12 : decide (r ≤ 893) = false := by simp; omega
  have f13 : decide (895 ≤ r) = true := by simp; omega
  have f14 : decide (r ≤ 8191) = false := by simp; omega
  have f15 : decide (8204 ≤ r) = true := by simp; omega
  have f16 : decide (r ≤ 8205) = false := by simp; omega
  have f17 : decide (8304 ≤ r) = true := by simp; omega
  have f18 : decide (r ≤ 8591) = false := by simp; omega
  have f19 : decide (11264 ≤ r) = true := by simp; omega
  have f20 : decide (r ≤ 12271) = false := by simp; omega
  have f21 : decide (12289 ≤ r) = true := by simp; omega
  have f22 : decide (r ≤ 55295) = false := by simp; omega
  have f23 : decide (63744 ≤ r) = true := by simp; omega
  have f24 : decide (r ≤ 64975) = false := by simp; omega
  have f25 : decide (65008 ≤ r) = true := by simp; omega
  have f26 : decide (r ≤ 65533) = false := by simp; omega
  have f27 : decide (65536 ≤ r) = false := by simp; omega
  go_enter Try.func12, Try.ntmps12
  dsimp only [List.append]
  go_wp2
  go_ret
  exact ⟨rfl, rfl⟩

set_option maxHeartbeats 1000000 in
set_option maxRecDepth 10000 in
theorem nr27t (r : Int) (w : World) (h1 : 65536 ≤ r) (h2 : r ≤ 983039) :
    Calls Try.prog 12 #[.int .i32 r, .bool true] w fun e w' => e = .returned (.bool true) ∧ w' = w := by
  have f0 : decide (192 ≤ r) = true := by simp; omega
  have f1 : decide (r ≤ 214) = false := by simp; omega
  have f2 : decide (216 ≤ r) = true := by simp; omega
  have f3 : decide (r ≤ 246) = false := by simp; omega
  have f4 : decide (248 ≤ r) = true := by simp; omega
  have f5 : decide (r ≤ 767) = false := by simp; omega
  have f6 : decide (880 ≤ r) = true := by simp; omega
  have f7 : decide (r ≤ 893) = false := by simp; omega
  have f8 : decide (895 ≤ r) = true := by simp; omega
  have f9 : decide (r ≤ 8191) = false := by simp; omega
  have f10 : decide (8204 ≤ r) = true := by simp; omega
  have f11 : decide (r ≤ 8205) = false := by simp; omega
  have f12 : decide (8304 ≤ r) = true := by simp; omega
  have f13 : decide (r ≤ 8591) = false := by simp; omega
  have f14 : decide (11264 ≤ r) = true := by simp; omega
  have f15 : decide (r ≤ 12271) = false := by simp; omega
  have f16 : decide (12289 ≤ r) = true := by simp; omega
  have f17 : decide (r ≤ 55295) = false := by simp; omega
  have f18 : decide (63744 ≤ r) = true := by simp; omega
  have f19 : decide (r ≤ 64975) = false := by simp; omega
  have f20 : decide (65008 ≤ r) = true := by simp; omega
  have f21 : decide (r ≤ 65533) = false := by simp; omega
  have f22 : decide (65536 ≤ r) = true := by simp; omega
  have f23 : decide (r ≤ 983039) = true := by simp; omega
  go_enter Try.func12, Try.ntmps12
  dsimp only [List.append]
  go_wp2
  go_ret
  exact ⟨rfl, rfl⟩

set_option maxHeartbeats 1000000 in
set_option maxRecDepth 10000 in
theorem nr27f (r : Int) (w : World) (h1 : 65536 ≤ r) (h2 : r ≤ 983039) :
    Calls Try.prog 12 #[.int .i32 r, .bool false] w fun e w' => e = .returned (.bool true) ∧ w' = w := by
  have f0 : (r == 183) = false := by simp; omega
  have f1 : decide (768 ≤ r) = true := by simp; omega
  have f2 : decide (r ≤ 879) = false := by simp; omega
  have f3 : decide (8255 ≤ r) = true := by simp; omega
  have f4 : decide (r ≤ 8256) = false := by simp; omega
  have f5 : decide (192 ≤ r) = true := by simp; omega
  have f6 : decide (r ≤ 214) = false := by simp; omega
  have f7 : decide (216 ≤ r) = true := by simp; omega
  have f8 : decide (r ≤ 246) = false := by simp; omega
  have f9 : decide (248 ≤ r) = true := by simp; omega
  have f10 : decide (r ≤ 767) = false := by simp; omega
  have f11 : decide (880 ≤ r) = true := by simp; omega
  have f12 : decide (r ≤ 893) = false := by simp; omega
  have f13 : decide (895 ≤ r) = true := by simp; omega
  have f14 : decide (r ≤ 8191) = false := by simp; omega
  have f15 : decide (8204 ≤ r) = true := by simp; omega
  have f16 : decide (r ≤ 8205) = false := by simp; omega
  have f17 : decide (8304 ≤ r) = true := by simp; omega
  have f18 : decide (r ≤ 8591) = false := by simp; omega
  have f19 : decide (11264 ≤ r) = true := by simp; omega
  have f20 : decide (r ≤ 12271) = false := by simp; omega
  have f21 : decide (12289 ≤ r) = true := by simp; omega
  have f22 : decide (r ≤ 55295) = false := by simp; omega
  have f23 : decide (63744 ≤ r) = true := by simp; omega
  have f24 : decide (r ≤ 64975) = false := by simp; omega
  have f25 : decide (65008 ≤ r) = true := by simp; omega
  have f26 : decide (r ≤ 65533) = false := by simp; omega
  have f27 : decide (65536 ≤ r) = true := by simp; omega
  have f28 : decide (r ≤ 983039) = true := by simp; omega
  go_enter Try.func12, Try.ntmps12
  dsimp only [List.append]
  go_wp2
  go_ret
  exact ⟨rfl, rfl⟩

set_option maxHeartbeats 1000000 in
set_option maxRecDepth 10000 in
theorem nr28t (r : Int) (w : World) (h1 : 983040 ≤ r) :
    Calls Try.prog 12 #[.int .i32 r, .bool true] w fun e w' => e = .returned (.bool false) ∧ w' = w := by
  have f0 : decide (192 ≤ r) = true := by simp; omega
  have f1 : decide (r ≤ 214) = false := by simp; omega
  have f2 : decide (216 ≤ r) = true := by simp; omega
  have f3 : decide (r ≤ 246) = false := by simp; omega
  have f4 : decide (248 ≤ r) = true := by simp; omega
  have f5 : decide (r ≤ 767) = false := by simp; omega
  have f6 : decide (880 ≤ r) = true := by simp; omega
  have f7 : decide (r ≤ 893) = false := by simp; omega
  have f8 : decide (895 ≤ r) = true := by simp; omega
  have f9 : decide (r ≤ 8191) = false := by simp; omega
  have f10 : decide (8204 ≤ r) = true := by simp; omega
  have f11 : decide (r ≤ 8205) = false := by simp; omega
  have f12 : decide (8304 ≤ r) = true := by simp; omega
  have f13 : decide (r ≤ 8591) = false := by simp; omega
  have f14 : decide (11264 ≤ r) = true := by simp; omega
  have f15 : decide (r ≤ 12271) = false := by simp; omega
  have f16 : decide (12289 ≤ r) = true := by simp; omega
  have f17 : decide (r ≤ 55295) = false := by simp; omega
  have f18 : decide (63744 ≤ r) = true := by simp; omega
  have f19 : decide (r ≤ 64975) = false := by simp; omega
  have f20 : decide (65008 ≤ r) = true := by simp; omega
  have f21 : decide (r ≤ 65533) = false := by simp; omega
  have f22 : decide (65536 ≤ r) = true := by simp; omega
  have f23 : decide (r ≤ 983039) = false := by simp; omega
  go_enter Try.func12, Try.ntmps12
  dsimp only [List.append]
  go_wp2
  go_ret
  exact ⟨rfl, rfl⟩

set_option maxHeartbeats 1000000 in
set_option maxRecDepth 10000 in
theorem nr28f (r : Int) (w : World) (h1 : 983040 ≤ r) :
    Calls Try.prog 12 #[.int .i32 r, .bool false] w fun e w' => e = .returned (.bool false) ∧ w' = w := by
  have f0 : (r == 183) = false := by simp; omega
  have f1 : decide (768 ≤ r) = true := by simp; omega
  have f2 : decide (r ≤ 879) = false := by simp; omega
  have f3 : decide (8255 ≤ r) = true := by simp; omega
  have f4 : decide (r ≤ 8256) = false := by simp; omega
  have f5 : decide (192 ≤ r) = true := by simp; omega
  have f6 : decide (r ≤ 214) = false := by simp; omega
  have f7 : decide (216 ≤ r) = true := by simp; omega
  have f8 : decide (r ≤ 246) = false := by simp; omega
  have f9 : decide (248 ≤ r) = true := by simp; omega
  have f10 : decide (r ≤ 767) = false := by simp; omega
  have f11 : decide (880 ≤ r) = true := by simp; omega
  have f12 : decide (r ≤ 893) = false := by simp; omega
  have f13 : decide (895 ≤ r) = true := by simp; omega
  have f14 : decide (r ≤ 8191) = false := by simp; omega
  have f15 : decide (8204 ≤ r) = true := by simp; omega
  have f16 : decide (r ≤ 8205) = false := by simp; omega
  have f17 : decide (8304 ≤ r) = true := by simp; omega
  have f18 : decide (r ≤ 8591) = false := by simp; omega
  have f19 : decide (11264 ≤ r) = true := by simp; omega
  have f20 : decide (r ≤ 12271) = false := by simp; omega
  have f21 : decide (12289 ≤ r) = true := by simp; omega
  have f22 : decide (r ≤ 55295) = false := by simp; omega
  have f23 : decide (63744 ≤ r) = true := by simp; omega
  have f24 : decide (r ≤ 64975) = false := by simp; omega
  have f25 : decide (65008 ≤ r) = true := by simp; omega
  have f26 : decide (r ≤ 65533) = false := by simp; omega
  have f27 : decide (65536 ≤ r) = true := by simp; omega
  have f28 : decide (r ≤ 983039) = false := by simp; omega
  go_enter Try.func12, Try.ntmps12
  dsimp only [List.append]
  go_wp2
  go_ret
  exact ⟨rfl, rfl⟩

def isS (r : Int) : Prop := (192 ≤ r ∧ r ≤ 214) ∨ (216 ≤ r ∧ r ≤ 246) ∨ (248 ≤ r ∧ r ≤ 767) ∨ (880 ≤ r ∧ r ≤ 893) ∨ (895 ≤ r ∧ r ≤ 8191) ∨ (8204 ≤ r ∧ r ≤ 8205) ∨ (8304 ≤ r ∧ r ≤ 8591) ∨ (11264 ≤ r ∧ r ≤ 12271) ∨ (12289 ≤ r ∧ r ≤ 55295) ∨ (63744 ≤ r ∧ r ≤ 64975) ∨ (65008 ≤ r ∧ r ≤ 65533) ∨ (65536 ≤ r ∧ r ≤ 983039)
def isC (r : Int) : Prop := (183 ≤ r ∧ r ≤ 183) ∨ (768 ≤ r ∧ r ≤ 879) ∨ (8255 ≤ r ∧ r ≤ 8256)
def isG (r : Int) : Prop := r ≤ 182 ∨ (184 ≤ r ∧ r ≤ 191) ∨ (215 ≤ r ∧ r ≤ 215) ∨ (247 ≤ r ∧ r ≤ 247) ∨ (894 ≤ r ∧ r ≤ 894) ∨ (8192 ≤ r ∧ r ≤ 8203) ∨ (8206 ≤ r ∧ r ≤ 8254) ∨ (8257 ≤ r ∧ r ≤ 8303) ∨ (8592 ≤ r ∧ r ≤ 11263) ∨ (12272 ≤ r ∧ r ≤ 12288) ∨ (55296 ≤ r ∧ r ≤ 63743) ∨ (64976 ≤ r ∧ r ≤ 65007) ∨ (65534 ≤ r ∧ r ≤ 65535) ∨ 983040 ≤ r
theorem all (r : Int) : isS r ∨ isC r ∨ isG r := by
  unfold isS isC isG
  omega
theorem nrS (r : Int) (b : Bool) (w : World) (h : isS r) :
    Calls Try.prog 12 #[.int .i32 r, .bool b] w fun e w' => e = .returned (.bool true) ∧ w' = w := by
  unfold isS at h
  rcases h with ⟨h1, h2⟩ | ⟨h1, h2⟩ | ⟨h1, h2⟩ | ⟨h1, h2⟩ | ⟨h1, h2⟩ | ⟨h1, h2⟩ | ⟨h1, h2⟩ | ⟨h1, h2⟩ | ⟨h1, h2⟩ | ⟨h1, h2⟩ | ⟨h1, h2⟩ | ⟨h1, h2⟩
  · cases b
    · exact nr3f r w h1 h2
    · exact nr3t r w h1 h2
  · cases b
    · exact nr5f r w h1 h2
    · exact nr5t r w h1 h2
  · cases b
    · exact nr7f r w h1 h2
    · exact nr7t r w h1 h2
  · cases b
    · exact nr9f r w h1 h2
    · exact nr9t r w h1 h2
  · cases b
    · exact nr11f r w h1 h2
    · exact nr11t r w h1 h2
  · cases b
    · exact nr13f r w h1 h2
    · exact nr13t r w h1 h2
  · cases b
    · exact nr17f r w h1 h2
    · exact nr17t r w h1 h2
  · cases b
    · exact nr19f r w h1 h2
    · exact nr19t r w h1 h2
  · cases b
    · exact nr21f r w h1 h2
    · exact nr21t r w h1 h2
  · cases b
    · exact nr23f r w h1 h2
    · exact nr23t r w h1 h2
  · cases b
    · exact nr25f r w h1 h2
    · exact nr25t r w h1 h2
  · cases b
    · exact nr27f r w h1 h2
    · exact nr27t r w h1 h2
theorem nrC (r : Int) (b : Bool) (w : World) (h : isC r) :
    Calls Try.prog 12 #[.int .i32 r, .bool b] w fun e w' => e = .returned (.bool (!b)) ∧ w' = w := by
  unfold isC at h
  rcases h with ⟨h1, h2⟩ | ⟨h1, h2⟩ | ⟨h1, h2⟩
  · cases b
    · exact nr1f r w h1 h2
    · exact nr1t r w h1 h2
  · cases b
    · exact nr8f r w h1 h2
    · exact nr8t r w h1 h2
  · cases b
    · exact nr15f r w h1 h2
    · exact nr15t r w h1 h2
theorem nrG (r : Int) (b : Bool) (w : World) (h : isG r) :
    Calls Try.prog 12 #[.int .i32 r, .bool b] w fun e w' => e = .returned (.bool false) ∧ w' = w := by
  unfold isG at h
  rcases h with h1 | ⟨h1, h2⟩ | ⟨h1, h2⟩ | ⟨h1, h2⟩ | ⟨h1, h2⟩ | ⟨h1, h2⟩ | ⟨h1, h2⟩ | ⟨h1, h2⟩ | ⟨h1, h2⟩ | ⟨h1, h2⟩ | ⟨h1, h2⟩ | ⟨h1, h2⟩ | ⟨h1, h2⟩ | h1
  · cases b
    · exact nr0f r w h1
    · exact nr0t r w h1
  · cases b
    · exact nr2f r w h1 h2
    · exact nr2t r w h1 h2
  · cases b
    · exact nr4f r w h1 h2
    · exact nr4t r w h1 h2
  · cases b
    · exact nr6f r w h1 h2
    · exact nr6t r w h1 h2
  · cases b
    · exact nr10f r w h1 h2
    · exact nr10t r w h1 h2
  · cases b
    · exact nr12f r w h1 h2
    · exact nr12t r w h1 h2
  · cases b
    · exact nr14f r w h1 h2
    · exact nr14t r w h1 h2
  · cases b
    · exact nr16f r w h1 h2
    · exact nr16t r w h1 h2
  · cases b
    · exact nr18f r w h1 h2
    · exact nr18t r w h1 h2
  · cases b
    · exact nr20f r w h1 h2
    · exact nr20t r w h1 h2
  · cases b
    · exact nr22f r w h1 h2
    · exact nr22t r w h1 h2
  · cases b
    · exact nr24f r w h1 h2
    · exact nr24t r w h1 h2
  · cases b
    · exact nr26f r w h1 h2
    · exact nr26t r w h1 h2
  · cases b
    · exact nr28f r w h1
    · exact nr28t r w h1
end Go.Proofs.Qxb6603823a.nameRune
