/-
  THE WALKS over math.Abs, IsInf, IsNaN: each returns something of its kind, and turns nothing.
-/
import Derived.Test.Qxb6612357aRows
import Derived.WalkKit
import Derived.WalkSpells
import Derived.WalkLawsBesides
import Derived.ProofKit
import Derived.Below
namespace Go.Proofs.Qxb6612357a
open Go.RowKit

theorem bits_run (b : Nat) (w : World) : (callFunc 13 #[.float .f64 b]).run Try.prog w = .ok (.value (.int .u64 b)) w := by kernel_rfl
theorem frombits_run (n : Int) (w : World) : (callFunc 12 #[.int .u64 n]).run Try.prog w = .ok (.value (.float .f64 n.toNat)) w := by kernel_rfl

theorem isnan_any (b : Nat) (w : World) :
    Calls Try.prog 9 #[.float .f64 b] w fun e w' => (∃ r, e = .returned (.bool r)) ∧ w' = w := by
  go_enter Try.func9, Try.ntmps9
  go_wp2
  go_ret
  exact ⟨⟨_, rfl⟩, rfl⟩

theorem abs_any (b : Nat) (w : World) :
    Calls Try.prog 11 #[.float .f64 b] w fun e w' => (∃ c, e = .returned (.float .f64 c)) ∧ w' = w := by
  have h1 := bits_run
  have h2 := frombits_run
  go_enter Try.func11, Try.ntmps11
  go_wp2
  go_ret
  exact ⟨⟨_, rfl⟩, rfl⟩

theorem isinf_any (b : Nat) (w : World) :
    Calls Try.prog 10 #[.float .f64 b, .int .i64 0] w fun e w' => (∃ r, e = .returned (.bool r)) ∧ w' = w := by
  go_enter Try.func10, Try.ntmps10
  go_wp2_with (go_at_call 11; refine (abs_any _ _).mono ?_; rintro e w' ⟨⟨c, rfl⟩, rfl⟩)
  go_ret
  exact ⟨⟨_, rfl⟩, rfl⟩

end Go.Proofs.Qxb6612357a
