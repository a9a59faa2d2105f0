/-
  THE WALKS over RestartDelay's none, normal, resets, and over ZZresets, zzMax64.
-/
import Derived.Test.Qxb6612357aFloats
namespace Go.Proofs.Qxb6612357a
open Go.RowKit

/-- The larger of two. -/
def mx (a b : Int) : Int := if b ≤ a then a else b

theorem mx_of_le {a b : Int} (h : a ≤ b) : mx a b = b := by unfold mx; split <;> omega
theorem mx_of_ge {a b : Int} (h : b ≤ a) : mx a b = a := by unfold mx; split <;> omega

theorem none_any (base : Int) (f : Nat) (cap : Int) (j : Bool) (w : World) :
    Calls Try.prog 7 #[.agg #[.int .i64 base, .float .f64 f, .int .i64 cap, .bool j]] w fun e w' => e = .returned (.bool (decide (base ≤ 0))) ∧ Below w.heap.size w w' := by
  go_enter Try.func7, Try.ntmps7
  go_wp2
  go_ret
  exact ⟨rfl, (Below.refl _ _).alloc (Nat.le_refl _) _⟩

/-- A float is stored as any one cell is. -/
theorem store_float {P : Program} {w : World} {a : Addr} {m : Mode} (k : FloatKind) (b : Nat) : (store a (.float k b) m).run P w = stored P w a (.float k b) m := run_store P w a _ m rfl
attribute [local go_sem] store_float

set_option maxHeartbeats 1000000 in
theorem normal_any (base : Int) (f : Nat) (cap : Int) (j : Bool) (w : World) :
    Calls Try.prog 8 #[.agg #[.int .i64 base, .float .f64 f, .int .i64 cap, .bool j]] w fun e w' => ∃ f', e = .returned (.agg #[.int .i64 base, .float .f64 f', .int .i64 (mx cap base), .bool j]) ∧ Below w.heap.size w w' := by
  by_cases hc : base ≤ cap
  · rw [mx_of_ge hc]
    go_enter Try.func8, Try.ntmps8
    go_wp2_with (first | (go_at_call 9; refine (isnan_any _ _).mono ?_; rintro e w' ⟨⟨r, rfl⟩, rfl⟩; cases r) | (go_at_call 10; refine (isinf_any _ _).mono ?_; rintro e w' ⟨⟨r, rfl⟩, rfl⟩; cases r))
    all_goals first
      | (refine bodyPost_ret (v := .agg #[.int .i64 base, .float .f64 f, .int .i64 cap, .bool j]) ?qra rfl ?qrb; (case qra => simp [results, Try.results8, go_sem]); (case qrb => exact ⟨_, rfl, ((Below.refl _ _).alloc (Nat.le_refl _) _).alloc (by simp) _⟩))
      | (refine bodyPost_ret (v := .agg #[.int .i64 base, .float .f64 4607182418800017408, .int .i64 cap, .bool j]) ?qra rfl ?qrb; (case qra => simp [results, Try.results8, go_sem]); (case qrb => exact ⟨_, rfl, ((Below.refl _ _).alloc (Nat.le_refl _) _).alloc (by simp) _⟩))
  · have hc' : cap < base := by omega
    rw [mx_of_le (Int.le_of_lt hc')]
    clear hc
    go_enter Try.func8, Try.ntmps8
    go_wp2_with (first | (go_at_call 9; refine (isnan_any _ _).mono ?_; rintro e w' ⟨⟨r, rfl⟩, rfl⟩; cases r) | (go_at_call 10; refine (isinf_any _ _).mono ?_; rintro e w' ⟨⟨r, rfl⟩, rfl⟩; cases r))
    all_goals first
      | (refine bodyPost_ret (v := .agg #[.int .i64 base, .float .f64 f, .int .i64 base, .bool j]) ?qra rfl ?qrb; (case qra => simp [results, Try.results8, go_sem]); (case qrb => exact ⟨_, rfl, ((Below.refl _ _).alloc (Nat.le_refl _) _).alloc (by simp) _⟩))
      | (refine bodyPost_ret (v := .agg #[.int .i64 base, .float .f64 4607182418800017408, .int .i64 base, .bool j]) ?qra rfl ?qrb; (case qra => simp [results, Try.results8, go_sem]); (case qrb => exact ⟨_, rfl, ((Below.refl _ _).alloc (Nat.le_refl _) _).alloc (by simp) _⟩))

theorem max_any (a b : Int) (w : World) :
    Calls Try.prog 5 #[.int .i64 a, .int .i64 b] w fun e w' => e = .returned (.int .i64 (mx a b)) ∧ w' = w := by
  by_cases h : b < a
  · rw [mx_of_ge (Int.le_of_lt h)]
    go_enter Try.func5, Try.ntmps5
    go_wp2
    go_ret
    exact ⟨rfl, rfl⟩
  · rw [mx_of_le (by omega)]
    go_enter Try.func5, Try.ntmps5
    go_wp2
    go_ret
    exact ⟨rfl, rfl⟩

/-- What resets answers. -/
def rsB (base cap ran : Int) : Bool := decide (0 < base) && decide (mx cap base < ran)

theorem rsB_no {base cap ran : Int} (h : base ≤ 0) : rsB base cap ran = false := by
  unfold rsB; rw [decide_eq_false (by omega)]; rfl
theorem rsB_yes {base cap ran : Int} (h : 0 < base) : rsB base cap ran = decide (mx cap base < ran) := by
  unfold rsB; rw [decide_eq_true h]; rfl

/-- The third field of a delay that is a value. -/
theorem field2 (a b c d : Value) (w : World) : (Instr.field 28 (.agg #[a, b, c, d]) 2).run Try.prog w = .ok c w := by kernel_rfl

theorem resets_any (base : Int) (f : Nat) (cap : Int) (j : Bool) (ran : Int) (w : World) :
    Calls Try.prog 6 #[.agg #[.int .i64 base, .float .f64 f, .int .i64 cap, .bool j], .int .i64 ran] w fun e w' => e = .returned (.bool (rsB base cap ran)) ∧ Below w.heap.size w w' := by
  by_cases hp : base ≤ 0
  · rw [rsB_no hp]
    have hd : decide (base ≤ 0) = true := decide_eq_true hp
    go_enter Try.func6, Try.ntmps6
    go_wp2_with (first | (go_at_call 7; refine (none_any _ _ _ _ _).mono ?_; rintro e w' ⟨rfl, hb⟩))
    go_ret
    exact ⟨rfl, ((Below.refl _ _).alloc (Nat.le_refl _) _).trans (hb.mono (by simp))⟩
  · rw [rsB_yes (by omega)]
    have hd : decide (base ≤ 0) = false := decide_eq_false hp
    have hf2 := field2
    go_enter Try.func6, Try.ntmps6
    go_wp2_with fail
    refine (none_any _ _ _ _ _).mono ?_
    rintro e w1 ⟨rfl, hb⟩
    have hb1 : Below w.heap.size w w1 := ((Below.refl _ _).alloc (Nat.le_refl _) _).trans (hb.mono (by simp))
    have c0 : ∀ o, o < 4 → w1.cell? ⟨w.heap.size, o, none⟩ = (#[Value.int .i64 base, .float .f64 f, .int .i64 cap, .bool j])[o]? := by
      intro o ho
      rw [hb.cell (by simp)]
      match o, ho with
      | 0, _ => simp [go_sem]
      | 1, _ => simp [go_sem]
      | 2, _ => simp [go_sem]
      | 3, _ => simp [go_sem]
    have d0 : w1.cell? ⟨w.heap.size, 0, none⟩ = some (.int .i64 base) := c0 0 (by omega)
    have d1 : w1.cell? ⟨w.heap.size, 1, none⟩ = some (.float .f64 f) := c0 1 (by omega)
    have d2 : w1.cell? ⟨w.heap.size, 2, none⟩ = some (.int .i64 cap) := c0 2 (by omega)
    have d3 : w1.cell? ⟨w.heap.size, 3, none⟩ = some (.bool j) := c0 3 (by omega)
    clear c0 hb
    go_wp2_with fail
    refine (normal_any _ _ _ _ _).mono ?_
    rintro e w2 ⟨f', rfl, hb2⟩
    go_wp2_with fail
    go_ret
    exact ⟨rfl, hb1.trans (hb2.mono hb1.size)⟩

theorem zzresets_any (base : Int) (f : Nat) (cap : Int) (ran : Int) (w : World) :
    Calls Try.prog 4 #[.int .i64 base, .float .f64 f, .int .i64 cap, .bool false, .int .i64 ran] w fun e w' => e = .returned (.bool (rsB base cap ran)) ∧ Below w.heap.size w w' := by
  go_enter Try.func4, Try.ntmps4
  go_wp2_with fail
  refine (resets_any _ _ _ _ _ _).mono ?_
  rintro e w1 ⟨rfl, hb⟩
  go_wp2_with fail
  go_ret
  exact ⟨rfl, hb⟩

end Go.Proofs.Qxb6612357a
