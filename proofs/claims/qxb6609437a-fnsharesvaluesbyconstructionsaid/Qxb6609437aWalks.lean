/-
  THE WALKS over the seat's program: zzClone, sharesValues, ZZsharesValues, zzBytes.
-/
import Derived.Test.Qxb6609437aRows
import Derived.WalkKit
import Derived.WalkSpells
import Derived.ProofKit
import Derived.Below
import Derived.Laws.CopyOwn
import Derived.Deep.OwnRows
import Derived.Deep.QuietTactic
import Derived.BigQuiet
import Derived.Lib.SliceRun
import Derived.LaidEqlPtr
namespace Go.Proofs.Qxb6609437a
open Go.RowKit

/-- What the walk is told of a slice that came in: it is nil; or it leads to a row whose first 'len' cells are the values 'vs', one cell each. -/
def IsVals (w : World) (a : Option Addr) (len cap : Nat) (vs : List Value) : Prop :=
  (a = none ∧ len = 0 ∧ cap = 0 ∧ vs = []) ∨
  ∃ x, a = some x ∧ len ≤ cap ∧ cap ≤ maxLen ∧ vs.length = len ∧ (∀ j v, vs[j]? = some v → w.cell? (x.add j) = some v) ∧ ∀ v ∈ vs, v.oneCell' = true

theorem IsVals.later {w w1 : World} {a : Option Addr} {len cap : Nat} {vs : List Value} (h : IsVals w a len cap vs) (hb : Below w.heap.size w w1) : IsVals w1 a len cap vs := by
  rcases h with h | ⟨x, h1, h2, h3, h4, h5, h6⟩
  · exact .inl h
  · exact .inr ⟨x, h1, h2, h3, h4, fun j v hv => (hb.cell (World.block_lt_of_cell? w _ (h5 j v hv))).trans (h5 j v hv), h6⟩

theorem info33 : (Try.prog.info? 33).map (fun i => (i.zero, i.size, i.bytes)) = some (some (.float .f64 0), 1, 8) := by kernel_rfl
theorem size33 : (Try.prog.info? 33).map (·.size) = some 1 := by kernel_rfl

/-- zzClone of a nil slice. -/
theorem clone_nil (w : World) :
    Calls Try.prog 5 #[.slice none 0 0] w fun e w' => e = .returned (.slice none 0 0) ∧ w' = w := by
  have hnil := fun (w : World) (a : Option Addr) (n c : Nat) => Lib.run_eql_slice_nil (P := Try.prog) w 22 33 a n c 0 0 Try.underlying22
  go_enter Try.func5, Try.ntmps5
  go_wp2
  go_ret
  exact ⟨rfl, rfl⟩

/-- zzClone of a slice that is not nil: a new block at the heap's end. -/
theorem clone_some (x : Addr) (len cap : Nat) (vs : List Value) (hlen : vs.length = len) (hl : len ≤ 65536)
    (w : World) (hc : ∀ j v, vs[j]? = some v → w.cell? (x.add j) = some v) (h1 : ∀ v ∈ vs, v.oneCell' = true) :
    Calls Try.prog 5 #[.slice (some x) len cap] w fun e w' => e = .returned (.slice (some ⟨w.heap.size, 0, none⟩) len len) ∧ Below w.heap.size w w' ∧ ∃ cs, w'.heap[w.heap.size]? = some (.cells cs 33 (0, 0)) := by
  have hnil := fun (w : World) (a : Option Addr) (n c : Nat) => Lib.run_eql_slice_nil (P := Try.prog) w 22 33 a n c 0 0 Try.underlying22
  have hmk := fun (w : World) => run_make_row' (P := Try.prog) 22 33 (.float .f64 0) 8 Try.underlying22 info33 rfl .i64 .i64 len (by omega) (by omega) w
  have hcl : ∀ j v, vs[j]? = some v → ∀ o, (w.alloc o).cell? (x.add j) = some v := fun j v hv o => by
    have hb := (Below.refl w.heap.size w).alloc (Nat.le_refl _) o
    exact (hb.cell (World.block_lt_of_cell? w _ (hc j v hv))).trans (hc j v hv)
  have hcp := run_copy_row (P := Try.prog) (w.alloc (.cells (madeCells #[.float .f64 0] len) 33)) 22 22 3 33 w.heap.size 0 len len x len cap (madeCells #[.float .f64 0] len) 33 vs Try.underlying22 size33 (heap_alloc_new w _) (by simp [hlen]) (fun j v hv => hcl j v hv _) (by simp [madeCells, hlen]) h1
  obtain ⟨w2, hcp2, hb2, hs2⟩ : ∃ w2, (Builtin.copy_ #[22, 22] 3 #[.slice (some ⟨w.heap.size, 0, none⟩) len len, .slice (some x) len cap]).run Try.prog (w.alloc (.cells (madeCells #[.float .f64 0] len) 33)) = .ok (goInt vs.length) w2 ∧ Below w.heap.size w w2 ∧ ∃ cs, w2.heap[w.heap.size]? = some (.cells cs 33 (0, 0)) :=
    ⟨_, hcp, below_setRow ((Below.refl _ _).alloc (Nat.le_refl _) _) (Nat.le_refl _) _, _, setRow_heap _ _ _ _ 33 _ (heap_alloc_new w _)⟩
  clear hcp hcl hc h1
  go_enter Try.func5, Try.ntmps5
  go_wp2
  go_ret
  exact ⟨rfl, hb2, hs2⟩

end Go.Proofs.Qxb6609437a
