/-
  THE WALK OF THE LAW: FnResetsStepMonotone returns true, and writes nothing that was there.
-/
import Derived.Test.Qxb6612357aResets
namespace Go.Proofs.Qxb6612357a
open Go.RowKit

/-! ### THE PLAIN PART: the step -/
theorem mx_le {a b c : Int} : mx a b ≤ c ↔ a ≤ c ∧ b ≤ c := by unfold mx; split <;> omega
theorem le_mx_left (a b : Int) : a ≤ mx a b := by unfold mx; split <;> omega
theorem le_mx_right (a b : Int) : b ≤ mx a b := by unfold mx; split <;> omega
theorem mx_bd {a b m : Int} (ha : a ≤ m) (hb : b ≤ m) : mx a b ≤ m := mx_le.2 ⟨ha, hb⟩

/-- A longer run, or a lower cap, takes no reset away. -/
theorem rs_mono {base lo hi rlo rhi : Int} (hc : lo ≤ hi) (hr : rlo ≤ rhi) (h : rsB base hi rlo = true) : rsB base lo rhi = true := by
  unfold rsB at h ⊢
  simp only [Bool.and_eq_true, decide_eq_true_eq] at h ⊢
  obtain ⟨h1, h2⟩ := h
  have a1 := le_mx_left hi base
  have a2 := le_mx_right hi base
  exact ⟨h1, by have : mx lo base ≤ mx hi base := mx_le.2 ⟨by omega, a2⟩; omega⟩

/-- At the larger of the two there is no reset. -/
theorem rs_at (base hi : Int) : rsB base hi (mx base hi) = false := by
  unfold rsB
  have a1 := le_mx_left base hi
  have a2 := le_mx_right base hi
  have : ¬ (mx hi base < mx base hi) := by
    have b1 := le_mx_left hi base
    have b2 := le_mx_right hi base
    have : mx base hi ≤ mx hi base := mx_le.2 ⟨b2, b1⟩
    omega
  rw [decide_eq_false this]; simp

/-- One more, and there is, also at a lower cap. -/
theorem rs_past {base lo hi : Int} (hp : 0 < base) (hc : lo ≤ hi) : rsB base lo (mx base hi + 1) = true := by
  rw [rsB_yes hp]
  have a1 := le_mx_left base hi
  have a2 := le_mx_right base hi
  have : mx lo base ≤ mx base hi := mx_le.2 ⟨by omega, a1⟩
  exact decide_eq_true (by omega)

/-! ### THE CALLEE, seen from the call's first world -/
theorem zz_from (W : World) (base : Int) (f : Nat) (cap ran : Int) (w : World) (h : Below W.heap.size W w) :
    Calls Try.prog 4 #[.int .i64 base, .float .f64 f, .int .i64 cap, .bool false, .int .i64 ran] w fun e w' => e = .returned (.bool (rsB base cap ran)) ∧ Below W.heap.size W w' :=
  (zzresets_any base f cap ran w).mono fun _ _ ⟨he, hb⟩ => ⟨he, h.trans (hb.mono h.size)⟩

set_option maxHeartbeats 1000000 in
theorem law00_no (base : Int) (f : Nat) (c1 c2 r1 r2 : Int) (w : World) (hp : base ≤ 0) (hc : c1 ≤ c2) (hr : r1 ≤ r2) :
    Calls Try.prog 3 #[.int .i64 base, .float .f64 f, .int .i64 c1, .int .i64 c2, .int .i64 r1, .int .i64 r2] w fun e w' => e = .returned (.bool true) ∧ Below w.heap.size w w' := by
  have e1 : ∀ c r, rsB base c r = false := fun c r => rsB_no hp
  have h0 := Below.refl w.heap.size w
  go_enter Try.func3, Try.ntmps3
  go_wp2_with (first | (go_at_call 4; refine (zz_from w _ _ _ _ _ (by assumption)).mono ?_; rintro e w' ⟨rfl, hb⟩) | (go_at_call 5; refine (max_any _ _ _).mono ?_; rintro e w' ⟨rfl, rfl⟩))
  go_ret
  exact ⟨rfl, by assumption⟩

set_option maxHeartbeats 1000000 in
theorem law00_max (base : Int) (f : Nat) (c1 c2 r1 r2 : Int) (w : World) (hp : 0 < base) (hc : c1 ≤ c2) (hr : r1 ≤ r2) (t : Int) (b : Bool)
    (e1 : rsB base c2 r1 = b) (e2 : b = true → rsB base c1 r2 = true) (e3 : mx base c2 = t) (e4 : rsB base c2 t = false) (e5 : (t == 9223372036854775807) = true) :
    Calls Try.prog 3 #[.int .i64 base, .float .f64 f, .int .i64 c1, .int .i64 c2, .int .i64 r1, .int .i64 r2] w fun e w' => e = .returned (.bool true) ∧ Below w.heap.size w w' := by
  have h0 := Below.refl w.heap.size w
  cases b
  · clear e2
    go_enter Try.func3, Try.ntmps3
    go_wp2_with (first | (go_at_call 4; refine (zz_from w _ _ _ _ _ (by assumption)).mono ?_; rintro e w' ⟨rfl, hb⟩) | (go_at_call 5; refine (max_any _ _ _).mono ?_; rintro e w' ⟨rfl, rfl⟩))
    go_ret
    exact ⟨rfl, by assumption⟩

  · have e2' := e2 rfl
    clear e2
    go_enter Try.func3, Try.ntmps3
    go_wp2_with (first | (go_at_call 4; refine (zz_from w _ _ _ _ _ (by assumption)).mono ?_; rintro e w' ⟨rfl, hb⟩) | (go_at_call 5; refine (max_any _ _ _).mono ?_; rintro e w' ⟨rfl, rfl⟩))
    go_ret
    exact ⟨rfl, by assumption⟩

set_option maxHeartbeats 1000000 in
theorem law00_step (base : Int) (f : Nat) (c1 c2 r1 r2 : Int) (w : World) (hp : 0 < base) (hc : c1 ≤ c2) (hr : r1 ≤ r2) (t : Int) (b : Bool)
    (e1 : rsB base c2 r1 = b) (e2 : b = true → rsB base c1 r2 = true) (e3 : mx base c2 = t) (e4 : rsB base c2 t = false) (t0 : 0 < t) (t1 : t ≤ 9223372036854775806)
    (e6 : rsB base c2 (t + 1) = true) (e7 : rsB base c1 (t + 1) = true) :
    Calls Try.prog 3 #[.int .i64 base, .float .f64 f, .int .i64 c1, .int .i64 c2, .int .i64 r1, .int .i64 r2] w fun e w' => e = .returned (.bool true) ∧ Below w.heap.size w w' := by
  have h0 := Below.refl w.heap.size w
  cases b
  · clear e2
    go_enter Try.func3, Try.ntmps3
    go_wp2_with (first | (go_at_call 4; refine (zz_from w _ _ _ _ _ (by assumption)).mono ?_; rintro e w' ⟨rfl, hb⟩) | (go_at_call 5; refine (max_any _ _ _).mono ?_; rintro e w' ⟨rfl, rfl⟩))
    go_ret
    exact ⟨rfl, by assumption⟩

  · have e2' := e2 rfl
    clear e2
    go_enter Try.func3, Try.ntmps3
    go_wp2_with (first | (go_at_call 4; refine (zz_from w _ _ _ _ _ (by assumption)).mono ?_; rintro e w' ⟨rfl, hb⟩) | (go_at_call 5; refine (max_any _ _ _).mono ?_; rintro e w' ⟨rfl, rfl⟩))
    go_ret
    exact ⟨rfl, by assumption⟩

theorem law00 (base : Int) (f : Nat) (c1 c2 r1 r2 : Int) (w : World) (b1 : base ≤ 9223372036854775807) (b2 : c2 ≤ 9223372036854775807) (hc : c1 ≤ c2) (hr : r1 ≤ r2) :
    Calls Try.prog 3 #[.int .i64 base, .float .f64 f, .int .i64 c1, .int .i64 c2, .int .i64 r1, .int .i64 r2] w fun e w' => e = .returned (.bool true) ∧ Below w.heap.size w w' := by
  have hc' : c1 ≤ c2 := by omega
  have hr' : r1 ≤ r2 := by omega
  by_cases hp : base ≤ 0
  · exact law00_no base f c1 c2 r1 r2 w hp hc hr
  · have hp' : 0 < base := by omega
    have ht := mx_bd b1 b2
    have ht0 := le_mx_left base c2
    by_cases hm : mx base c2 = 9223372036854775807
    · exact law00_max base f c1 c2 r1 r2 w hp' hc hr _ _ rfl (rs_mono hc' hr') rfl (rs_at _ _) (by rw [hm]; rfl)
    · exact law00_step base f c1 c2 r1 r2 w hp' hc hr _ _ rfl (rs_mono hc' hr') rfl (rs_at _ _) (by omega) (by omega) (rs_past hp' (Int.le_refl _)) (rs_past hp' hc')

set_option maxHeartbeats 1000000 in
theorem law01_no (base : Int) (f : Nat) (c1 c2 r1 r2 : Int) (w : World) (hp : base ≤ 0) (hc : c1 ≤ c2) (hr : r2 < r1) :
    Calls Try.prog 3 #[.int .i64 base, .float .f64 f, .int .i64 c1, .int .i64 c2, .int .i64 r1, .int .i64 r2] w fun e w' => e = .returned (.bool true) ∧ Below w.heap.size w w' := by
  have e1 : ∀ c r, rsB base c r = false := fun c r => rsB_no hp
  have h0 := Below.refl w.heap.size w
  go_enter Try.func3, Try.ntmps3
  go_wp2_with (first | (go_at_call 4; refine (zz_from w _ _ _ _ _ (by assumption)).mono ?_; rintro e w' ⟨rfl, hb⟩) | (go_at_call 5; refine (max_any _ _ _).mono ?_; rintro e w' ⟨rfl, rfl⟩))
  go_ret
  exact ⟨rfl, by assumption⟩

set_option maxHeartbeats 1000000 in
theorem law01_max (base : Int) (f : Nat) (c1 c2 r1 r2 : Int) (w : World) (hp : 0 < base) (hc : c1 ≤ c2) (hr : r2 < r1) (t : Int) (b : Bool)
    (e1 : rsB base c2 r2 = b) (e2 : b = true → rsB base c1 r1 = true) (e3 : mx base c2 = t) (e4 : rsB base c2 t = false) (e5 : (t == 9223372036854775807) = true) :
    Calls Try.prog 3 #[.int .i64 base, .float .f64 f, .int .i64 c1, .int .i64 c2, .int .i64 r1, .int .i64 r2] w fun e w' => e = .returned (.bool true) ∧ Below w.heap.size w w' := by
  have h0 := Below.refl w.heap.size w
  cases b
  · clear e2
    go_enter Try.func3, Try.ntmps3
    go_wp2_with (first | (go_at_call 4; refine (zz_from w _ _ _ _ _ (by assumption)).mono ?_; rintro e w' ⟨rfl, hb⟩) | (go_at_call 5; refine (max_any _ _ _).mono ?_; rintro e w' ⟨rfl, rfl⟩))
    go_ret
    exact ⟨rfl, by assumption⟩

  · have e2' := e2 rfl
    clear e2
    go_enter Try.func3, Try.ntmps3
    go_wp2_with (first | (go_at_call 4; refine (zz_from w _ _ _ _ _ (by assumption)).mono ?_; rintro e w' ⟨rfl, hb⟩) | (go_at_call 5; refine (max_any _ _ _).mono ?_; rintro e w' ⟨rfl, rfl⟩))
    go_ret
    exact ⟨rfl, by assumption⟩

set_option maxHeartbeats 1000000 in
theorem law01_step (base : Int) (f : Nat) (c1 c2 r1 r2 : Int) (w : World) (hp : 0 < base) (hc : c1 ≤ c2) (hr : r2 < r1) (t : Int) (b : Bool)
    (e1 : rsB base c2 r2 = b) (e2 : b = true → rsB base c1 r1 = true) (e3 : mx base c2 = t) (e4 : rsB base c2 t = false) (t0 : 0 < t) (t1 : t ≤ 9223372036854775806)
    (e6 : rsB base c2 (t + 1) = true) (e7 : rsB base c1 (t + 1) = true) :
    Calls Try.prog 3 #[.int .i64 base, .float .f64 f, .int .i64 c1, .int .i64 c2, .int .i64 r1, .int .i64 r2] w fun e w' => e = .returned (.bool true) ∧ Below w.heap.size w w' := by
  have h0 := Below.refl w.heap.size w
  cases b
  · clear e2
    go_enter Try.func3, Try.ntmps3
    go_wp2_with (first | (go_at_call 4; refine (zz_from w _ _ _ _ _ (by assumption)).mono ?_; rintro e w' ⟨rfl, hb⟩) | (go_at_call 5; refine (max_any _ _ _).mono ?_; rintro e w' ⟨rfl, rfl⟩))
    go_ret
    exact ⟨rfl, by assumption⟩

  · have e2' := e2 rfl
    clear e2
    go_enter Try.func3, Try.ntmps3
    go_wp2_with (first | (go_at_call 4; refine (zz_from w _ _ _ _ _ (by assumption)).mono ?_; rintro e w' ⟨rfl, hb⟩) | (go_at_call 5; refine (max_any _ _ _).mono ?_; rintro e w' ⟨rfl, rfl⟩))
    go_ret
    exact ⟨rfl, by assumption⟩

theorem law01 (base : Int) (f : Nat) (c1 c2 r1 r2 : Int) (w : World) (b1 : base ≤ 9223372036854775807) (b2 : c2 ≤ 9223372036854775807) (hc : c1 ≤ c2) (hr : r2 < r1) :
    Calls Try.prog 3 #[.int .i64 base, .float .f64 f, .int .i64 c1, .int .i64 c2, .int .i64 r1, .int .i64 r2] w fun e w' => e = .returned (.bool true) ∧ Below w.heap.size w w' := by
  have hc' : c1 ≤ c2 := by omega
  have hr' : r2 ≤ r1 := by omega
  by_cases hp : base ≤ 0
  · exact law01_no base f c1 c2 r1 r2 w hp hc hr
  · have hp' : 0 < base := by omega
    have ht := mx_bd b1 b2
    have ht0 := le_mx_left base c2
    by_cases hm : mx base c2 = 9223372036854775807
    · exact law01_max base f c1 c2 r1 r2 w hp' hc hr _ _ rfl (rs_mono hc' hr') rfl (rs_at _ _) (by rw [hm]; rfl)
    · exact law01_step base f c1 c2 r1 r2 w hp' hc hr _ _ rfl (rs_mono hc' hr') rfl (rs_at _ _) (by omega) (by omega) (rs_past hp' (Int.le_refl _)) (rs_past hp' hc')

set_option maxHeartbeats 1000000 in
theorem law10_no (base : Int) (f : Nat) (c1 c2 r1 r2 : Int) (w : World) (hp : base ≤ 0) (hc : c2 < c1) (hr : r1 ≤ r2) :
    Calls Try.prog 3 #[.int .i64 base, .float .f64 f, .int .i64 c1, .int .i64 c2, .int .i64 r1, .int .i64 r2] w fun e w' => e = .returned (.bool true) ∧ Below w.heap.size w w' := by
  have e1 : ∀ c r, rsB base c r = false := fun c r => rsB_no hp
  have h0 := Below.refl w.heap.size w
  go_enter Try.func3, Try.ntmps3
  go_wp2_with (first | (go_at_call 4; refine (zz_from w _ _ _ _ _ (by assumption)).mono ?_; rintro e w' ⟨rfl, hb⟩) | (go_at_call 5; refine (max_any _ _ _).mono ?_; rintro e w' ⟨rfl, rfl⟩))
  go_ret
  exact ⟨rfl, by assumption⟩

set_option maxHeartbeats 1000000 in
theorem law10_max (base : Int) (f : Nat) (c1 c2 r1 r2 : Int) (w : World) (hp : 0 < base) (hc : c2 < c1) (hr : r1 ≤ r2) (t : Int) (b : Bool)
    (e1 : rsB base c1 r1 = b) (e2 : b = true → rsB base c2 r2 = true) (e3 : mx base c1 = t) (e4 : rsB base c1 t = false) (e5 : (t == 9223372036854775807) = true) :
    Calls Try.prog 3 #[.int .i64 base, .float .f64 f, .int .i64 c1, .int .i64 c2, .int .i64 r1, .int .i64 r2] w fun e w' => e = .returned (.bool true) ∧ Below w.heap.size w w' := by
  have h0 := Below.refl w.heap.size w
  cases b
  · clear e2
    go_enter Try.func3, Try.ntmps3
    go_wp2_with (first | (go_at_call 4; refine (zz_from w _ _ _ _ _ (by assumption)).mono ?_; rintro e w' ⟨rfl, hb⟩) | (go_at_call 5; refine (max_any _ _ _).mono ?_; rintro e w' ⟨rfl, rfl⟩))
    go_ret
    exact ⟨rfl, by assumption⟩

  · have e2' := e2 rfl
    clear e2
    go_enter Try.func3, Try.ntmps3
    go_wp2_with (first | (go_at_call 4; refine (zz_from w _ _ _ _ _ (by assumption)).mono ?_; rintro e w' ⟨rfl, hb⟩) | (go_at_call 5; refine (max_any _ _ _).mono ?_; rintro e w' ⟨rfl, rfl⟩))
    go_ret
    exact ⟨rfl, by assumption⟩

set_option maxHeartbeats 1000000 in
theorem law10_step (base : Int) (f : Nat) (c1 c2 r1 r2 : Int) (w : World) (hp : 0 < base) (hc : c2 < c1) (hr : r1 ≤ r2) (t : Int) (b : Bool)
    (e1 : rsB base c1 r1 = b) (e2 : b = true → rsB base c2 r2 = true) (e3 : mx base c1 = t) (e4 : rsB base c1 t = false) (t0 : 0 < t) (t1 : t ≤ 9223372036854775806)
    (e6 : rsB base c1 (t + 1) = true) (e7 : rsB base c2 (t + 1) = true) :
    Calls Try.prog 3 #[.int .i64 base, .float .f64 f, .int .i64 c1, .int .i64 c2, .int .i64 r1, .int .i64 r2] w fun e w' => e = .returned (.bool true) ∧ Below w.heap.size w w' := by
  have h0 := Below.refl w.heap.size w
  cases b
  · clear e2
    go_enter Try.func3, Try.ntmps3
    go_wp2_with (first | (go_at_call 4; refine (zz_from w _ _ _ _ _ (by assumption)).mono ?_; rintro e w' ⟨rfl, hb⟩) | (go_at_call 5; refine (max_any _ _ _).mono ?_; rintro e w' ⟨rfl, rfl⟩))
    go_ret
    exact ⟨rfl, by assumption⟩

  · have e2' := e2 rfl
    clear e2
    go_enter Try.func3, Try.ntmps3
    go_wp2_with (first | (go_at_call 4; refine (zz_from w _ _ _ _ _ (by assumption)).mono ?_; rintro e w' ⟨rfl, hb⟩) | (go_at_call 5; refine (max_any _ _ _).mono ?_; rintro e w' ⟨rfl, rfl⟩))
    go_ret
    exact ⟨rfl, by assumption⟩

theorem law10 (base : Int) (f : Nat) (c1 c2 r1 r2 : Int) (w : World) (b1 : base ≤ 9223372036854775807) (b2 : c1 ≤ 9223372036854775807) (hc : c2 < c1) (hr : r1 ≤ r2) :
    Calls Try.prog 3 #[.int .i64 base, .float .f64 f, .int .i64 c1, .int .i64 c2, .int .i64 r1, .int .i64 r2] w fun e w' => e = .returned (.bool true) ∧ Below w.heap.size w w' := by
  have hc' : c2 ≤ c1 := by omega
  have hr' : r1 ≤ r2 := by omega
  by_cases hp : base ≤ 0
  · exact law10_no base f c1 c2 r1 r2 w hp hc hr
  · have hp' : 0 < base := by omega
    have ht := mx_bd b1 b2
    have ht0 := le_mx_left base c1
    by_cases hm : mx base c1 = 9223372036854775807
    · exact law10_max base f c1 c2 r1 r2 w hp' hc hr _ _ rfl (rs_mono hc' hr') rfl (rs_at _ _) (by rw [hm]; rfl)
    · exact law10_step base f c1 c2 r1 r2 w hp' hc hr _ _ rfl (rs_mono hc' hr') rfl (rs_at _ _) (by omega) (by omega) (rs_past hp' (Int.le_refl _)) (rs_past hp' hc')

set_option maxHeartbeats 1000000 in
theorem law11_no (base : Int) (f : Nat) (c1 c2 r1 r2 : Int) (w : World) (hp : base ≤ 0) (hc : c2 < c1) (hr : r2 < r1) :
    Calls Try.prog 3 #[.int .i64 base, .float .f64 f, .int .i64 c1, .int .i64 c2, .int .i64 r1, .int .i64 r2] w fun e w' => e = .returned (.bool true) ∧ Below w.heap.size w w' := by
  have e1 : ∀ c r, rsB base c r = false := fun c r => rsB_no hp
  have h0 := Below.refl w.heap.size w
  go_enter Try.func3, Try.ntmps3
  go_wp2_with (first | (go_at_call 4; refine (zz_from w _ _ _ _ _ (by assumption)).mono ?_; rintro e w' ⟨rfl, hb⟩) | (go_at_call 5; refine (max_any _ _ _).mono ?_; rintro e w' ⟨rfl, rfl⟩))
  go_ret
  exact ⟨rfl, by assumption⟩

set_option maxHeartbeats 1000000 in
theorem law11_max (base : Int) (f : Nat) (c1 c2 r1 r2 : Int) (w : World) (hp : 0 < base) (hc : c2 < c1) (hr : r2 < r1) (t : Int) (b : Bool)
    (e1 : rsB base c1 r2 = b) (e2 : b = true → rsB base c2 r1 = true) (e3 : mx base c1 = t) (e4 : rsB base c1 t = false) (e5 : (t == 9223372036854775807) = true) :
    Calls Try.prog 3 #[.int .i64 base, .float .f64 f, .int .i64 c1, .int .i64 c2, .int .i64 r1, .int .i64 r2] w fun e w' => e = .returned (.bool true) ∧ Below w.heap.size w w' := by
  have h0 := Below.refl w.heap.size w
  cases b
  · clear e2
    go_enter Try.func3, Try.ntmps3
    go_wp2_with (first | (go_at_call 4; refine (zz_from w _ _ _ _ _ (by assumption)).mono ?_; rintro e w' ⟨rfl, hb⟩) | (go_at_call 5; refine (max_any _ _ _).mono ?_; rintro e w' ⟨rfl, rfl⟩))
    go_ret
    exact ⟨rfl, by assumption⟩

  · have e2' := e2 rfl
    clear e2
    go_enter Try.func3, Try.ntmps3
    go_wp2_with (first | (go_at_call 4; refine (zz_from w _ _ _ _ _ (by assumption)).mono ?_; rintro e w' ⟨rfl, hb⟩) | (go_at_call 5; refine (max_any _ _ _).mono ?_; rintro e w' ⟨rfl, rfl⟩))
    go_ret
    exact ⟨rfl, by assumption⟩

set_option maxHeartbeats 1000000 in
theorem law11_step (base : Int) (f : Nat) (c1 c2 r1 r2 : Int) (w : World) (hp : 0 < base) (hc : c2 < c1) (hr : r2 < r1) (t : Int) (b : Bool)
    (e1 : rsB base c1 r2 = b) (e2 : b = true → rsB base c2 r1 = true) (e3 : mx base c1 = t) (e4 : rsB base c1 t = false) (t0 : 0 < t) (t1 : t ≤ 9223372036854775806)
    (e6 : rsB base c1 (t + 1) = true) (e7 : rsB base c2 (t + 1) = true) :
    Calls Try.prog 3 #[.int .i64 base, .float .f64 f, .int .i64 c1, .int .i64 c2, .int .i64 r1, .int .i64 r2] w fun e w' => e = .returned (.bool true) ∧ Below w.heap.size w w' := by
  have h0 := Below.refl w.heap.size w
  cases b
  · clear e2
    go_enter Try.func3, Try.ntmps3
    go_wp2_with (first | (go_at_call 4; refine (zz_from w _ _ _ _ _ (by assumption)).mono ?_; rintro e w' ⟨rfl, hb⟩) | (go_at_call 5; refine (max_any _ _ _).mono ?_; rintro e w' ⟨rfl, rfl⟩))
    go_ret
    exact ⟨rfl, by assumption⟩

  · have e2' := e2 rfl
    clear e2
    go_enter Try.func3, Try.ntmps3
    go_wp2_with (first | (go_at_call 4; refine (zz_from w _ _ _ _ _ (by assumption)).mono ?_; rintro e w' ⟨rfl, hb⟩) | (go_at_call 5; refine (max_any _ _ _).mono ?_; rintro e w' ⟨rfl, rfl⟩))
    go_ret
    exact ⟨rfl, by assumption⟩

theorem law11 (base : Int) (f : Nat) (c1 c2 r1 r2 : Int) (w : World) (b1 : base ≤ 9223372036854775807) (b2 : c1 ≤ 9223372036854775807) (hc : c2 < c1) (hr : r2 < r1) :
    Calls Try.prog 3 #[.int .i64 base, .float .f64 f, .int .i64 c1, .int .i64 c2, .int .i64 r1, .int .i64 r2] w fun e w' => e = .returned (.bool true) ∧ Below w.heap.size w w' := by
  have hc' : c2 ≤ c1 := by omega
  have hr' : r2 ≤ r1 := by omega
  by_cases hp : base ≤ 0
  · exact law11_no base f c1 c2 r1 r2 w hp hc hr
  · have hp' : 0 < base := by omega
    have ht := mx_bd b1 b2
    have ht0 := le_mx_left base c1
    by_cases hm : mx base c1 = 9223372036854775807
    · exact law11_max base f c1 c2 r1 r2 w hp' hc hr _ _ rfl (rs_mono hc' hr') rfl (rs_at _ _) (by rw [hm]; rfl)
    · exact law11_step base f c1 c2 r1 r2 w hp' hc hr _ _ rfl (rs_mono hc' hr') rfl (rs_at _ _) (by omega) (by omega) (rs_past hp' (Int.le_refl _)) (rs_past hp' hc')

theorem law (base : Int) (f : Nat) (c1 c2 r1 r2 : Int) (w : World) (b1 : base ≤ 9223372036854775807) (b2 : c1 ≤ 9223372036854775807) (b3 : c2 ≤ 9223372036854775807) :
    Calls Try.prog 3 #[.int .i64 base, .float .f64 f, .int .i64 c1, .int .i64 c2, .int .i64 r1, .int .i64 r2] w fun e w' => e = .returned (.bool true) ∧ Below w.heap.size w w' := by
  by_cases hc : c1 ≤ c2
  · by_cases hr : r1 ≤ r2
    · exact law00 base f c1 c2 r1 r2 w b1 b3 hc hr
    · exact law01 base f c1 c2 r1 r2 w b1 b3 hc (by omega)
  · by_cases hr : r1 ≤ r2
    · exact law10 base f c1 c2 r1 r2 w b1 b2 (by omega) hr
    · exact law11 base f c1 c2 r1 r2 w b1 b2 (by omega) (by omega)

end Go.Proofs.Qxb6612357a
