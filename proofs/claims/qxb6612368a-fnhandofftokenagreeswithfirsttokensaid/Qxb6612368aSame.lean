/-
  THE WALKS over zzRestZero, zzSameMessageButIdle.
-/
import Derived.Test.Qxb6612368aMessage
import Derived.Laws.StructEq
namespace Go.Proofs.Qxb6612368a
open Go.RowKit
set_option linter.unusedVariables false

section
variable (c t : Int) (va : Option Addr) (vn : Nat) (idle : Int)
theorem msg_0 : (msg c t va vn idle)[0]? = some (.int .u8 1) := rfl
theorem msg_1 : (msg c t va vn idle)[1]? = some (.int .u64 0) := rfl
theorem msg_2 : (msg c t va vn idle)[2]? = some (.int .u64 c) := rfl
theorem msg_3 : (msg c t va vn idle)[3]? = some (.int .u64 t) := rfl
theorem msg_4 : (msg c t va vn idle)[4]? = some (.slice va vn vn) := rfl
theorem msg_5 : (msg c t va vn idle)[5]? = some (.int .i64 idle) := rfl
theorem msg_6 : (msg c t va vn idle)[6]? = some (.bool false) := rfl
theorem msg_7 : (msg c t va vn idle)[7]? = some (.bool false) := rfl
theorem msg_8 : (msg c t va vn idle)[8]? = some (.bool false) := rfl
theorem msg_9 : (msg c t va vn idle)[9]? = some (.bool false) := rfl
theorem msg_10 : (msg c t va vn idle)[10]? = some (.bool false) := rfl
theorem msg_11 : (msg c t va vn idle)[11]? = some (.int .u64 0) := rfl
theorem msg_12 : (msg c t va vn idle)[12]? = some (.int .u64 0) := rfl
theorem msg_13 : (msg c t va vn idle)[13]? = some (.bool false) := rfl
theorem msg_14 : (msg c t va vn idle)[14]? = some (.bool false) := rfl
theorem msg_15 : (msg c t va vn idle)[15]? = some (.bool false) := rfl
theorem msg_16 : (msg c t va vn idle)[16]? = some (.int .i64 0) := rfl
theorem msg_17 : (msg c t va vn idle)[17]? = some (.string ⟨#[]⟩) := rfl
theorem msg_18 : (msg c t va vn idle)[18]? = some (.bool false) := rfl
theorem msg_19 : (msg c t va vn idle)[19]? = some (.int .i64 0) := rfl
theorem msg_20 : (msg c t va vn idle)[20]? = some (.int .u64 0) := rfl
theorem msg_21 : (msg c t va vn idle)[21]? = some (.int .u64 0) := rfl
theorem msg_22 : (msg c t va vn idle)[22]? = some (.int .i64 0) := rfl
theorem msg_23 : (msg c t va vn idle)[23]? = some (.slice none 0 0) := rfl
theorem msg_24 : (msg c t va vn idle)[24]? = some (.int .i64 0) := rfl
theorem msg_25 : (msg c t va vn idle)[25]? = some (.int .u64 0) := rfl
theorem msg_26 : (msg c t va vn idle)[26]? = some (.int .i64 0) := rfl
theorem msg_27 : (msg c t va vn idle)[27]? = some (.int .u64 0) := rfl
theorem msg_28 : (msg c t va vn idle)[28]? = some (.slice none 0 0) := rfl
end
attribute [local go_sem] msg_0 msg_1 msg_2 msg_3 msg_4 msg_5 msg_6 msg_7 msg_8 msg_9 msg_10 msg_11 msg_12 msg_13 msg_14 msg_15 msg_16 msg_17 msg_18 msg_19 msg_20 msg_21 msg_22 msg_23 msg_24 msg_25 msg_26 msg_27 msg_28

set_option maxRecDepth 100000 in
set_option maxHeartbeats 2000000 in
theorem restZero_any (c t : Int) (va : Option Addr) (vn : Nat) (idle : Int) (w : World) :
    Calls Try.prog 12 #[.agg (msg c t va vn idle)] w fun e w' => e = .returned (.bool true) ∧ Below w.heap.size w w' := by
  have hnil := fun (w : World) (a : Option Addr) (n c : Nat) => Lib.run_eql_slice_nil (P := Try.prog) w 36 62 a n c 0 0 Try.underlying36
  go_enter Try.func12, Try.ntmps12
  go_wp2
  go_ret
  exact ⟨rfl, (Below.refl _ _).alloc (Nat.le_refl _) _⟩

set_option maxRecDepth 100000 in
set_option maxHeartbeats 4000000 in
theorem sameMessage_any (c t : Int) (va : Option Addr) (vn : Nat) (i1 i2 : Int) (w : World) (hn : vn ≤ 65536) (hv : ViewOk w va vn) :
    Calls Try.prog 13 #[.agg (msg c t va vn i1), .agg (msg c t va vn i2)] w fun e w' => e = .returned (.bool true) ∧ Below w.heap.size w w' := by
  have HV : Hid (ViewOk w va vn) := hv
  clear hv
  go_enter Try.func13, Try.ntmps13
  go_wp2_with fail
  refine (sameView_any va vn _ hn (HV.out.later (((Below.refl _ _).alloc (Nat.le_refl _) _).alloc (by simp) _))).mono ?_
  rintro e w1 ⟨rfl, m, rfl⟩
  go_wp2_with fail
  refine (sameNames_nil _).mono ?_
  rintro e w2 ⟨rfl, rfl⟩
  go_wp2_with fail
  refine (sameNames_nil _).mono ?_
  rintro e w2 ⟨rfl, rfl⟩
  go_wp2_with fail
  go_ret
  exact ⟨rfl, (((Below.refl _ _).alloc (Nat.le_refl _) _).alloc (by simp) _).trans ⟨rfl, rfl, rfl, Nat.le_refl _, fun _ _ => rfl⟩⟩

end Go.Proofs.Qxb6612368a
