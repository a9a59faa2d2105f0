/-
  THE SHARED PART OF TWO PROOFS: what 'premultiply' gives, and the plain arithmetic of it.
-/
import Derived.Test.Qxb6612642aRows
import Derived.WalkKit
import Derived.ProofKit
namespace Go.Proofs.Qxb6612642a
open Go.RowKit

/-! ### THE PLAIN PART -/
/-- (c*a + 127) / 255. -/
def pre (c a : Int) : Int := (c * a + 127) / 255

theorem mul_bd (c a : Int) (c0 : 0 ≤ c) (c1 : c ≤ 255) (a0 : 0 ≤ a) (a1 : a ≤ 255) : 0 ≤ c * a ∧ c * a ≤ 65025 := by
  refine ⟨Int.mul_nonneg c0 a0, ?_⟩
  have h := Int.mul_le_mul c1 a1 a0 (by omega : (0 : Int) ≤ 255)
  omega

theorem pre_bd (c a : Int) (c0 : 0 ≤ c) (c1 : c ≤ 255) (a0 : 0 ≤ a) (a1 : a ≤ 255) : 0 ≤ pre c a ∧ pre c a ≤ 255 := by
  have h := mul_bd c a c0 c1 a0 a1
  unfold pre
  omega

theorem pre_compl (c a : Int) : pre c a + pre (255 - c) a = a := by
  unfold pre
  rw [Int.sub_mul]
  omega

theorem pre_comm (c a : Int) : pre c a = pre a c := by unfold pre; rw [Int.mul_comm]

theorem pre_compl' (c a : Int) : pre c a + pre c (255 - a) = c := by
  rw [pre_comm c a, pre_comm c (255 - a)]; exact pre_compl a c

theorem pre_step (c a : Int) (a0 : 0 ≤ a) (a1 : a ≤ 255) : pre c a ≤ pre (c + 1) a ∧ pre (c + 1) a ≤ pre c a + 1 := by
  unfold pre
  rw [Int.add_mul]
  omega

/-! ### THE CALLEES -/
theorem premul_any (c a : Int) (c0 : 0 ≤ c) (c1 : c ≤ 255) (a0 : 0 ≤ a) (a1 : a ≤ 255) (w : World) :
    Calls Try.prog 6 #[.int .u8 c, .int .u8 a] w fun e w' => e = .returned (.int .u8 (pre c a)) ∧ w' = w := by
  obtain ⟨m0, m1⟩ := mul_bd c a c0 c1 a0 a1
  unfold pre
  go_enter Try.func6, Try.ntmps6
  go_wp2
  go_ret
  exact ⟨rfl, rfl⟩

theorem zzpremul_any (c a : Int) (c0 : 0 ≤ c) (c1 : c ≤ 255) (a0 : 0 ≤ a) (a1 : a ≤ 255) (w : World) :
    Calls Try.prog 5 #[.int .u8 c, .int .u8 a] w fun e w' => e = .returned (.int .u8 (pre c a)) ∧ w' = w := by
  go_enter Try.func5, Try.ntmps5
  go_wp2_with (go_at_call 6; refine (premul_any c a c0 c1 a0 a1 _).mono ?_; rintro e w' ⟨rfl, rfl⟩)
  go_ret
  exact ⟨rfl, rfl⟩

end Go.Proofs.Qxb6612642a
