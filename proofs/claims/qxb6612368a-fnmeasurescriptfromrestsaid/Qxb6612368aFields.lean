/-
  THE WALKS over ZZmeasure, ZZRoundTripsFields, ZZnewRoundTrips.
-/
import Derived.Test.Qxb6612368aMeasure
namespace Go.Proofs.Qxb6612368a
open Go.RowKit
set_option linter.unusedVariables false

theorem zzmeasure_any (g : Nat) (t s u y m d hi : Int) (w : World) (h : RT w g t s u y m) (d0 : 0 ≤ d) (d1 : d ≤ hi) (b : hi ≤ 1152921504606846976) (s0 : 0 ≤ s) (s1 : s ≤ hi) (u0 : 0 ≤ u) (u1 : u ≤ 9223372036854775807) (m0 : 0 ≤ m) (m1 : m ≤ 65536) (y0 : 0 ≤ y) (y1 : y ≤ hi) :
    Calls Try.prog 16 #[.pointer (some ⟨g, 0, none⟩), .int .i64 d] w fun e w' => e = .returned (.tuple #[]) ∧ ∃ s' y', RT w' g t s' (hv m u) y' (m + 1) ∧ d ≤ s' ∧ s' ≤ hi ∧ 0 ≤ y' ∧ y' ≤ hi ∧ Below g w w' := by
  go_enter Try.func16, Try.ntmps16
  go_wp2_with fail
  refine (measure_any g t s u y m d hi w h d0 d1 b s0 s1 u0 u1 m0 m1 y0 y1).mono ?_
  rintro e w' ⟨rfl, H⟩
  have H' : Hid _ := H
  clear H
  go_wp2_with fail
  go_end0
  exact ⟨rfl, H'.out⟩

theorem fields_any (g : Nat) (t s u y m : Int) (w : World) (h : RT w g t s u y m) :
    Calls Try.prog 17 #[.pointer (some ⟨g, 0, none⟩)] w fun e w' => e = .returned (.tuple #[.map none, .map none, .int .i64 t, .int .i64 s, .int .i64 u, .int .i64 y, .int .i64 m]) ∧ ∃ n, w' = w.drewN n := by
  obtain ⟨c0, c1, c2, c3, c4, c5, c6, fr⟩ := h
  go_enter Try.func17, Try.ntmps17
  go_wp2
  go_quiet (fail)
  go_wp2
  refine bodyPost_ret (v := .tuple #[.map none, .map none, .int .i64 t, .int .i64 s, .int .i64 u, .int .i64 y, .int .i64 m]) ?_ rfl ⟨rfl, _, rfl⟩
  simp [results, Try.results17, go_sem]

theorem new_any (t : Int) (w : World) :
    Calls Try.prog 15 #[.int .i64 t, .int .i64 0, .int .i64 t, .int .i64 0, .int .i64 0] w fun e w' => e = .returned (.pointer (some ⟨w.heap.size, 0, none⟩)) ∧ RT w' w.heap.size t 0 t 0 0 ∧ Below w.heap.size w w' := by
  go_enter Try.func15, Try.ntmps15
  go_wp2
  go_ret
  refine ⟨rfl, ⟨?_, ?_, ?_, ?_, ?_, ?_, ?_, ?_⟩, (Below.refl _ _).alloc (Nat.le_refl _) _⟩
  all_goals simp [go_sem]

end Go.Proofs.Qxb6612368a
