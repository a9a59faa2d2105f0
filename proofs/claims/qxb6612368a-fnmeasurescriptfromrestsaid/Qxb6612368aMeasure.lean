/-
  THE WALKS over (*RoundTrips).measure, ZZmeasure, ZZRoundTripsFields, ZZnewRoundTrips.
-/
import Derived.Test.Qxb6612368aRows
import Derived.WalkKit
import Derived.WalkSpells
import Derived.WalkLawsBesides
import Derived.ProofKit
import Derived.Below
import Derived.Deep.QuietTactic
import Derived.BigQuiet
namespace Go.Proofs.Qxb6612368a
open Go.RowKit
set_option linter.unusedVariables false

/-- The seven cells of a RoundTrips at the head of block g. -/
structure RT (w : World) (g : Nat) (t s u y : Int) (m : Int) : Prop where
  c0 : w.cell? ⟨g, 0, none⟩ = some (.map none)
  c1 : w.cell? ⟨g, 1, none⟩ = some (.map none)
  c2 : w.cell? ⟨g, 2, none⟩ = some (.int .i64 t)
  c3 : w.cell? ⟨g, 3, none⟩ = some (.int .i64 s)
  c4 : w.cell? ⟨g, 4, none⟩ = some (.int .i64 u)
  c5 : w.cell? ⟨g, 5, none⟩ = some (.int .i64 y)
  c6 : w.cell? ⟨g, 6, none⟩ = some (.int .i64 m)
  fr : ∀ o, w.frozen? ⟨g, o, none⟩ = false

theorem RT.drew {w : World} {g : Nat} {t s u y m : Int} (h : RT w g t s u y m) : RT w.drew g t s u y m := ⟨h.c0, h.c1, h.c2, h.c3, h.c4, h.c5, h.c6, h.fr⟩
theorem RT.drewN {w : World} {g : Nat} {t s u y m : Int} (h : RT w g t s u y m) (n : Nat) : RT (w.drewN n) g t s u y m := ⟨h.c0, h.c1, h.c2, h.c3, h.c4, h.c5, h.c6, h.fr⟩

theorem RT.set3 {w : World} {g : Nat} {t s u y m : Int} (h : RT w g t s u y m) (v : Int) : RT (w.setCell ⟨g, 3, none⟩ (.int .i64 v)) g t v u y m :=
  ⟨by rw [World.cell?_setCell_other _ _ _ _ (by simp)]; exact h.c0, by rw [World.cell?_setCell_other _ _ _ _ (by simp)]; exact h.c1, by rw [World.cell?_setCell_other _ _ _ _ (by simp)]; exact h.c2, World.cell?_setCell_same _ _ _ h.c3, by rw [World.cell?_setCell_other _ _ _ _ (by simp)]; exact h.c4, by rw [World.cell?_setCell_other _ _ _ _ (by simp)]; exact h.c5, by rw [World.cell?_setCell_other _ _ _ _ (by simp)]; exact h.c6, fun o => by rw [World.frozen?_setCell]; exact h.fr o⟩
theorem RT.set4 {w : World} {g : Nat} {t s u y m : Int} (h : RT w g t s u y m) (v : Int) : RT (w.setCell ⟨g, 4, none⟩ (.int .i64 v)) g t s v y m :=
  ⟨by rw [World.cell?_setCell_other _ _ _ _ (by simp)]; exact h.c0, by rw [World.cell?_setCell_other _ _ _ _ (by simp)]; exact h.c1, by rw [World.cell?_setCell_other _ _ _ _ (by simp)]; exact h.c2, by rw [World.cell?_setCell_other _ _ _ _ (by simp)]; exact h.c3, World.cell?_setCell_same _ _ _ h.c4, by rw [World.cell?_setCell_other _ _ _ _ (by simp)]; exact h.c5, by rw [World.cell?_setCell_other _ _ _ _ (by simp)]; exact h.c6, fun o => by rw [World.frozen?_setCell]; exact h.fr o⟩
theorem RT.set5 {w : World} {g : Nat} {t s u y m : Int} (h : RT w g t s u y m) (v : Int) : RT (w.setCell ⟨g, 5, none⟩ (.int .i64 v)) g t s u v m :=
  ⟨by rw [World.cell?_setCell_other _ _ _ _ (by simp)]; exact h.c0, by rw [World.cell?_setCell_other _ _ _ _ (by simp)]; exact h.c1, by rw [World.cell?_setCell_other _ _ _ _ (by simp)]; exact h.c2, by rw [World.cell?_setCell_other _ _ _ _ (by simp)]; exact h.c3, by rw [World.cell?_setCell_other _ _ _ _ (by simp)]; exact h.c4, World.cell?_setCell_same _ _ _ h.c5, by rw [World.cell?_setCell_other _ _ _ _ (by simp)]; exact h.c6, fun o => by rw [World.frozen?_setCell]; exact h.fr o⟩
theorem RT.set6 {w : World} {g : Nat} {t s u y m : Int} (h : RT w g t s u y m) (v : Int) : RT (w.setCell ⟨g, 6, none⟩ (.int .i64 v)) g t s u y v :=
  ⟨by rw [World.cell?_setCell_other _ _ _ _ (by simp)]; exact h.c0, by rw [World.cell?_setCell_other _ _ _ _ (by simp)]; exact h.c1, by rw [World.cell?_setCell_other _ _ _ _ (by simp)]; exact h.c2, by rw [World.cell?_setCell_other _ _ _ _ (by simp)]; exact h.c3, by rw [World.cell?_setCell_other _ _ _ _ (by simp)]; exact h.c4, by rw [World.cell?_setCell_other _ _ _ _ (by simp)]; exact h.c5, World.cell?_setCell_same _ _ _ h.c6, fun o => by rw [World.frozen?_setCell]; exact h.fr o⟩

/-- What stands for the longest behind one more round trip: halved at every sixteenth. -/
def hv (m u : Int) : Int := if (m + 1) % 16 = 0 then u / 2 else u
theorem hv_yes {m u : Int} (h : (m + 1) % 16 = 0) : hv m u = u / 2 := by unfold hv; rw [if_pos h]
theorem hv_no {m u : Int} (h : ¬ (m + 1) % 16 = 0) : hv m u = u := by unfold hv; rw [if_neg h]

/-- The typical stays between 0 and the longest. -/
theorem q_bd {d y q hi : Int} (hq : (d - y).tdiv 8 = q) (d0 : 0 ≤ d) (d1 : d ≤ hi) (y0 : 0 ≤ y) (y1 : y ≤ hi) : 0 ≤ y + q ∧ y + q ≤ hi := by
  by_cases h : y ≤ d
  · rw [Int.tdiv_eq_ediv_of_nonneg (by omega)] at hq
    omega
  · have e : (d - y).tdiv 8 = -((y - d).tdiv 8) := by rw [← Int.neg_tdiv]; congr 1; omega
    rw [e, Int.tdiv_eq_ediv_of_nonneg (by omega)] at hq
    omega

set_option maxHeartbeats 1000000 in
theorem measure_far_settle (g : Nat) (t s u y m d q hi : Int) (w : World) (h : RT w g t s u y m) (d0 : 0 ≤ d) (d1 : d ≤ hi) (b : hi ≤ 1152921504606846976) (s0 : 0 ≤ s) (s1 : s ≤ hi) (u0 : 0 ≤ u) (u1 : u ≤ 9223372036854775807) (m0 : 0 ≤ m) (m1 : m ≤ 65536)
    (y0 : 0 ≤ y) (y1 : y ≤ hi) (hq : (d - y).tdiv 8 = q) (q0 : 0 ≤ y + q) (q1 : y + q ≤ hi) (hf : 4 * (y + q) < s) (hm : ((m + 1) % 16 == 0) = true) :
    Calls Try.prog 21 #[.pointer (some ⟨g, 0, none⟩), .int .i64 d] w fun e w' => e = .returned (.tuple #[]) ∧ ∃ s', RT w' g t s' (u / 2) (y + q) (m + 1) ∧ d ≤ s' ∧ s' ≤ hi ∧ Below g w w' := by
  have H : Hid (RT w g t s u y m) := h
  obtain ⟨c0, c1, c2, c3, c4, c5, c6, fr⟩ := h
  go_enter Try.func21, Try.ntmps21
  go_wp2
  go_region
  go_wp2
  go_region
  go_wp2
  go_region
  all_goals go_wp2
  all_goals
    go_end0
    exact ⟨rfl, _, (((((H.out.set5 _).set3 _).set3 _).set6 _).set4 _).drew.drew.drew, by omega, by omega, ((((((Below.refl g w).setCell (Nat.le_refl _) _).setCell (Nat.le_refl _) _).setCell (Nat.le_refl _) _).setCell (Nat.le_refl _) _).setCell (Nat.le_refl _) _).drew.drew.drew⟩

set_option maxHeartbeats 1000000 in
theorem measure_far_plain (g : Nat) (t s u y m d q hi : Int) (w : World) (h : RT w g t s u y m) (d0 : 0 ≤ d) (d1 : d ≤ hi) (b : hi ≤ 1152921504606846976) (s0 : 0 ≤ s) (s1 : s ≤ hi) (u0 : 0 ≤ u) (u1 : u ≤ 9223372036854775807) (m0 : 0 ≤ m) (m1 : m ≤ 65536)
    (y0 : 0 ≤ y) (y1 : y ≤ hi) (hq : (d - y).tdiv 8 = q) (q0 : 0 ≤ y + q) (q1 : y + q ≤ hi) (hf : 4 * (y + q) < s) (hm : ((m + 1) % 16 == 0) = false) :
    Calls Try.prog 21 #[.pointer (some ⟨g, 0, none⟩), .int .i64 d] w fun e w' => e = .returned (.tuple #[]) ∧ ∃ s', RT w' g t s' (u) (y + q) (m + 1) ∧ d ≤ s' ∧ s' ≤ hi ∧ Below g w w' := by
  have H : Hid (RT w g t s u y m) := h
  obtain ⟨c0, c1, c2, c3, c4, c5, c6, fr⟩ := h
  go_enter Try.func21, Try.ntmps21
  go_wp2
  go_region
  go_wp2
  go_region
  go_wp2
  go_region
  all_goals go_wp2
  all_goals
    go_end0
    exact ⟨rfl, _, ((((H.out.set5 _).set3 _).set3 _).set6 _).drew.drew.drew, by omega, by omega, (((((Below.refl g w).setCell (Nat.le_refl _) _).setCell (Nat.le_refl _) _).setCell (Nat.le_refl _) _).setCell (Nat.le_refl _) _).drew.drew.drew⟩

set_option maxHeartbeats 1000000 in
theorem measure_near_settle (g : Nat) (t s u y m d q hi : Int) (w : World) (h : RT w g t s u y m) (d0 : 0 ≤ d) (d1 : d ≤ hi) (b : hi ≤ 1152921504606846976) (s0 : 0 ≤ s) (s1 : s ≤ hi) (u0 : 0 ≤ u) (u1 : u ≤ 9223372036854775807) (m0 : 0 ≤ m) (m1 : m ≤ 65536)
    (y0 : 0 ≤ y) (y1 : y ≤ hi) (hq : (d - y).tdiv 8 = q) (q0 : 0 ≤ y + q) (q1 : y + q ≤ hi) (hf : ¬ 4 * (y + q) < s) (hm : ((m + 1) % 16 == 0) = true) :
    Calls Try.prog 21 #[.pointer (some ⟨g, 0, none⟩), .int .i64 d] w fun e w' => e = .returned (.tuple #[]) ∧ ∃ s', RT w' g t s' (u / 2) (y + q) (m + 1) ∧ d ≤ s' ∧ s' ≤ hi ∧ Below g w w' := by
  have H : Hid (RT w g t s u y m) := h
  obtain ⟨c0, c1, c2, c3, c4, c5, c6, fr⟩ := h
  go_enter Try.func21, Try.ntmps21
  go_wp2
  go_region
  go_wp2
  go_region
  all_goals go_wp2
  all_goals
    go_end0
    exact ⟨rfl, _, ((((H.out.set5 _).set3 _).set6 _).set4 _).drew.drew, by omega, by omega, (((((Below.refl g w).setCell (Nat.le_refl _) _).setCell (Nat.le_refl _) _).setCell (Nat.le_refl _) _).setCell (Nat.le_refl _) _).drew.drew⟩

set_option maxHeartbeats 1000000 in
theorem measure_near_plain (g : Nat) (t s u y m d q hi : Int) (w : World) (h : RT w g t s u y m) (d0 : 0 ≤ d) (d1 : d ≤ hi) (b : hi ≤ 1152921504606846976) (s0 : 0 ≤ s) (s1 : s ≤ hi) (u0 : 0 ≤ u) (u1 : u ≤ 9223372036854775807) (m0 : 0 ≤ m) (m1 : m ≤ 65536)
    (y0 : 0 ≤ y) (y1 : y ≤ hi) (hq : (d - y).tdiv 8 = q) (q0 : 0 ≤ y + q) (q1 : y + q ≤ hi) (hf : ¬ 4 * (y + q) < s) (hm : ((m + 1) % 16 == 0) = false) :
    Calls Try.prog 21 #[.pointer (some ⟨g, 0, none⟩), .int .i64 d] w fun e w' => e = .returned (.tuple #[]) ∧ ∃ s', RT w' g t s' (u) (y + q) (m + 1) ∧ d ≤ s' ∧ s' ≤ hi ∧ Below g w w' := by
  have H : Hid (RT w g t s u y m) := h
  obtain ⟨c0, c1, c2, c3, c4, c5, c6, fr⟩ := h
  go_enter Try.func21, Try.ntmps21
  go_wp2
  go_region
  go_wp2
  go_region
  all_goals go_wp2
  all_goals
    go_end0
    exact ⟨rfl, _, (((H.out.set5 _).set3 _).set6 _).drew.drew, by omega, by omega, ((((Below.refl g w).setCell (Nat.le_refl _) _).setCell (Nat.le_refl _) _).setCell (Nat.le_refl _) _).drew.drew⟩

/-- (*RoundTrips).measure. -/
theorem measure_any (g : Nat) (t s u y m d hi : Int) (w : World) (h : RT w g t s u y m) (d0 : 0 ≤ d) (d1 : d ≤ hi) (b : hi ≤ 1152921504606846976) (s0 : 0 ≤ s) (s1 : s ≤ hi) (u0 : 0 ≤ u) (u1 : u ≤ 9223372036854775807) (m0 : 0 ≤ m) (m1 : m ≤ 65536) (y0 : 0 ≤ y) (y1 : y ≤ hi) :
    Calls Try.prog 21 #[.pointer (some ⟨g, 0, none⟩), .int .i64 d] w fun e w' => e = .returned (.tuple #[]) ∧ ∃ s' y', RT w' g t s' (hv m u) y' (m + 1) ∧ d ≤ s' ∧ s' ≤ hi ∧ 0 ≤ y' ∧ y' ≤ hi ∧ Below g w w' := by
  obtain ⟨q0, q1⟩ := q_bd (d := d) (y := y) rfl d0 d1 y0 y1
  by_cases hm : (m + 1) % 16 = 0
  · rw [hv_yes hm]
    by_cases hf : 4 * (y + (d - y).tdiv 8) < s
    · exact (measure_far_settle g t s u y m d _ hi w h d0 d1 b s0 s1 u0 u1 m0 m1 y0 y1 rfl q0 q1 hf (by simp [hm])).mono fun e w' ⟨he, s', hr, a1, a2, hb⟩ => ⟨he, s', _, hr, a1, a2, q0, q1, hb⟩
    · exact (measure_near_settle g t s u y m d _ hi w h d0 d1 b s0 s1 u0 u1 m0 m1 y0 y1 rfl q0 q1 hf (by simp [hm])).mono fun e w' ⟨he, s', hr, a1, a2, hb⟩ => ⟨he, s', _, hr, a1, a2, q0, q1, hb⟩
  · rw [hv_no hm]
    by_cases hf : 4 * (y + (d - y).tdiv 8) < s
    · exact (measure_far_plain g t s u y m d _ hi w h d0 d1 b s0 s1 u0 u1 m0 m1 y0 y1 rfl q0 q1 hf (by simp [hm])).mono fun e w' ⟨he, s', hr, a1, a2, hb⟩ => ⟨he, s', _, hr, a1, a2, q0, q1, hb⟩
    · exact (measure_near_plain g t s u y m d _ hi w h d0 d1 b s0 s1 u0 u1 m0 m1 y0 y1 rfl q0 q1 hf (by simp [hm])).mono fun e w' ⟨he, s', hr, a1, a2, hb⟩ => ⟨he, s', _, hr, a1, a2, q0, q1, hb⟩

end Go.Proofs.Qxb6612368a
