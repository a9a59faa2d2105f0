/-
  THE WALKS over ZZHandoff, (Handoff).token, ZZHandoffToken, firstToken, ZZfirstToken.
-/
import Derived.Test.Qxb6612368aView
import Derived.Laws.Rows
import Derived.Laws.CopyOwn
namespace Go.Proofs.Qxb6612368a
open Go.RowKit
set_option linter.unusedVariables false

/-- The 29 cells of a token: a Pass of this count, these tickets, this view, so long idle; nothing else set. -/
def msg (c t : Int) (va : Option Addr) (vn : Nat) (idle : Int) : Array Value :=
  #[.int .u8 1, .int .u64 0, .int .u64 c, .int .u64 t, .slice va vn vn, .int .i64 idle, .bool false, .bool false, .bool false, .bool false, .bool false, .int .u64 0, .int .u64 0, .bool false, .bool false, .bool false, .int .i64 0, .string ⟨#[]⟩, .bool false, .int .i64 0, .int .u64 0, .int .u64 0, .int .i64 0, .slice none 0 0, .int .i64 0, .int .u64 0, .int .i64 0, .int .u64 0, .slice none 0 0]

/-- The zero of it. -/
def msg0 : Array Value :=
  #[.int .u8 0, .int .u64 0, .int .u64 0, .int .u64 0, .slice none 0 0, .int .i64 0, .bool false, .bool false, .bool false, .bool false, .bool false, .int .u64 0, .int .u64 0, .bool false, .bool false, .bool false, .int .i64 0, .string ⟨#[]⟩, .bool false, .int .i64 0, .int .u64 0, .int .u64 0, .int .i64 0, .slice none 0 0, .int .i64 0, .int .u64 0, .int .i64 0, .int .u64 0, .slice none 0 0]

theorem size40 : (Try.prog.info? 40).map (·.size) = some 29 := by kernel_rfl
theorem msg_info (c t : Int) (va : Option Addr) (vn : Nat) (idle : Int) : (Try.prog.info? 40).map (·.size) = some (msg c t va vn idle).size := size40
theorem msg_one (c t : Int) (va : Option Addr) (vn : Nat) (idle : Int) : (msg c t va vn idle).all (·.oneCell') = true := by simp [msg, Value.oneCell']

theorem wpList_build_is {P : Program} {ops : Array Oper} {rest : List Oper} {o : Oper} {a : Act} {w : World} {Q : Exit → Act → World → Prop} (hg : o.guard = none) (t : TypeId) (parts : Array (Nat × Operand)) (ho : o.op = .build t parts) (cells : Array Value)
    (hb : P.built t (parts.map fun (i, x) => (i, a.eval x)).toList = some cells) (h : wpList P ops Q rest (a.put o.dst (.agg cells)) w) : wpList P ops Q (o :: rest) a w :=
  wpList_build hg t parts ho (by rw [hb]; rfl) (by rw [hb]; exact h)

theorem handoff_any (to c t : Int) (w : World) :
    Calls Try.prog 9 #[.int .i64 to, .int .u64 c, .int .u64 t, .int .i64 0, .slice none 0 0] w fun e w' => e = .returned (.agg #[.int .i64 to, .int .u64 c, .int .u64 t, .int .i64 0, .slice none 0 0]) ∧ Below w.heap.size w w' := by
  go_enter Try.func9, Try.ntmps9
  go_wp2
  refine bodyPost_ret (v := .agg #[.int .i64 to, .int .u64 c, .int .u64 t, .int .i64 0, .slice none 0 0]) ?_ rfl ⟨rfl, (Below.refl _ _).alloc (Nat.le_refl _) _⟩
  simp [results, Try.results9, go_sem]

set_option maxRecDepth 100000 in
set_option maxHeartbeats 1000000 in
theorem token_any (to c t : Int) (va : Option Addr) (vn : Nat) (w : World) :
    Calls Try.prog 18 #[.agg #[.int .i64 to, .int .u64 c, .int .u64 t, .int .i64 0, .slice none 0 0], .slice va vn vn] w fun e w' => e = .returned (.agg (msg c t va vn 0)) ∧ Below w.heap.size w w' := by
  go_enter Try.func18, Try.ntmps18
  go_wp2_with (first | (refine wpList_build_is rfl 40 #[(0, .const (.int .u8 1)), (2, .tmp 6), (3, .tmp 8), (4, .tmp 9), (20, .tmp 11), (22, .tmp 13)] rfl (msg c t va vn 0) (by kernel_rfl) ?_) | (refine wpList_store_row rfl 40 (.tmp 4) (.tmp 14) rfl (w.heap.size + 1) (msg c t va vn 0) rfl rfl 40 _ (heap_alloc2_new w _ _) (msg_info _ _ _ _ _) rfl (msg_one _ _ _ _ _) ?_))
  refine bodyPost_ret (v := .agg (msg c t va vn 0)) (results_cell_row Try.results18 _ _ (w.heap.size + 1) 40 (msg c t va vn 0) (0, 0) _ rfl (setRow_heap _ _ _ _ 40 (0, 0) (heap_alloc2_new w _ _)) Try.underlying40 rfl (msg_info _ _ _ _ _)) rfl ⟨rfl, ?_⟩
  exact below_setRow (((Below.refl _ _).alloc (Nat.le_refl _) _).alloc (by simp) _) (Nat.le_succ _) _

set_option maxRecDepth 100000 in
set_option maxHeartbeats 1000000 in
theorem htoken_any (to c t : Int) (va : Option Addr) (vn : Nat) (w : World) :
    Calls Try.prog 8 #[.agg #[.int .i64 to, .int .u64 c, .int .u64 t, .int .i64 0, .slice none 0 0], .slice va vn vn] w fun e w' => e = .returned (.agg (msg c t va vn 0)) ∧ Below w.heap.size w w' := by
  go_enter Try.func8, Try.ntmps8
  go_wp2_with fail
  refine (token_any to c t va vn _).mono ?_
  rintro e w2 ⟨rfl, hb⟩
  have hB : Hid (Below w.heap.size w w2) := (((Below.refl _ _).alloc (Nat.le_refl _) _).alloc (by simp) _).trans (hb.mono (by simp; omega))
  obtain ⟨old, hold, hs⟩ : ∃ old, w2.heap[w.heap.size + 1]? = some (.cells old 40 (0, 0)) ∧ old.size = 29 := ⟨msg0, by rw [hb.block _ (by simp)]; exact heap_alloc2_new w _ _, rfl⟩
  have HO : Hid (w2.heap[w.heap.size + 1]? = some (.cells old 40 (0, 0))) := hold
  have HZ : Hid (old.size = 29) := hs
  clear hb hold hs
  go_wp2_with (refine wpList_store_row rfl 40 (.tmp 4) (.tmp 7) rfl (w.heap.size + 1) (msg c t va vn 0) rfl rfl 40 old HO.out (msg_info _ _ _ _ _) HZ.out (msg_one _ _ _ _ _) ?_)
  refine bodyPost_ret (v := .agg (msg c t va vn 0)) (results_cell_row Try.results8 _ _ (w.heap.size + 1) 40 (msg c t va vn 0) (0, 0) _ rfl (setRow_heap _ _ _ _ 40 (0, 0) HO.out) Try.underlying40 rfl (msg_info _ _ _ _ _)) rfl ⟨rfl, ?_⟩
  exact below_setRow hB.out (Nat.le_succ _) _

set_option maxRecDepth 100000 in
set_option maxHeartbeats 1000000 in
theorem first_any (c t : Int) (va : Option Addr) (vn : Nat) (w : World) (hn : vn ≤ 65536) :
    Calls Try.prog 19 #[.slice va vn vn, .agg #[.int .u64 c, .int .u64 t]] w fun e w' => e = .returned (.agg (msg c t va vn ((vn : Int) - 1))) ∧ Below w.heap.size w w' := by
  go_enter Try.func19, Try.ntmps19
  go_wp2_with (first | (refine wpList_build_is rfl 40 #[(0, .const (.int .u8 1)), (2, .tmp 6), (3, .tmp 8), (4, .tmp 9), (5, .tmp 12)] rfl (msg c t va vn ((vn : Int) - 1)) (by kernel_rfl) ?_) | (refine wpList_store_row rfl 40 (.tmp 4) (.tmp 13) rfl (w.heap.size + 1) (msg c t va vn ((vn : Int) - 1)) rfl rfl 40 _ (heap_alloc2_new w _ _) (msg_info _ _ _ _ _) rfl (msg_one _ _ _ _ _) ?_))
  refine bodyPost_ret (v := .agg (msg c t va vn ((vn : Int) - 1))) (results_cell_row Try.results19 _ _ (w.heap.size + 1) 40 (msg c t va vn ((vn : Int) - 1)) (0, 0) _ rfl (setRow_heap _ _ _ _ 40 (0, 0) (heap_alloc2_new w _ _)) Try.underlying40 rfl (msg_info _ _ _ _ _)) rfl ⟨rfl, ?_⟩
  exact below_setRow (((Below.refl _ _).alloc (Nat.le_refl _) _).alloc (by simp) _) (Nat.le_succ _) _

set_option maxRecDepth 100000 in
set_option maxHeartbeats 1000000 in
theorem zzfirst_any (c t : Int) (va : Option Addr) (vn : Nat) (w : World) (hn : vn ≤ 65536) :
    Calls Try.prog 10 #[.slice va vn vn, .agg #[.int .u64 c, .int .u64 t]] w fun e w' => e = .returned (.agg (msg c t va vn ((vn : Int) - 1))) ∧ Below w.heap.size w w' := by
  go_enter Try.func10, Try.ntmps10
  go_wp2_with fail
  refine (first_any c t va vn _ hn).mono ?_
  rintro e w2 ⟨rfl, hb⟩
  have hB : Hid (Below w.heap.size w w2) := (((Below.refl _ _).alloc (Nat.le_refl _) _).alloc (by simp) _).trans (hb.mono (by simp; omega))
  obtain ⟨old, hold, hs⟩ : ∃ old, w2.heap[w.heap.size + 1]? = some (.cells old 40 (0, 0)) ∧ old.size = 29 := ⟨msg0, by rw [hb.block _ (by simp)]; exact heap_alloc2_new w _ _, rfl⟩
  have HO : Hid (w2.heap[w.heap.size + 1]? = some (.cells old 40 (0, 0))) := hold
  have HZ : Hid (old.size = 29) := hs
  clear hb hold hs
  go_wp2_with (refine wpList_store_row rfl 40 (.tmp 4) (.tmp 7) rfl (w.heap.size + 1) (msg c t va vn ((vn : Int) - 1)) rfl rfl 40 old HO.out (msg_info _ _ _ _ _) HZ.out (msg_one _ _ _ _ _) ?_)
  refine bodyPost_ret (v := .agg (msg c t va vn ((vn : Int) - 1))) (results_cell_row Try.results10 _ _ (w.heap.size + 1) 40 (msg c t va vn ((vn : Int) - 1)) (0, 0) _ rfl (setRow_heap _ _ _ _ 40 (0, 0) HO.out) Try.underlying40 rfl (msg_info _ _ _ _ _)) rfl ⟨rfl, ?_⟩
  exact below_setRow hB.out (Nat.le_succ _) _

end Go.Proofs.Qxb6612368a
