/-
  THE WALK OF THE LAW FnMeasureScriptFromRest.
-/
import Derived.Test.Qxb6612368aFields
import Derived.Laws.Shifts
namespace Go.Proofs.Qxb6612368a
open Go.RowKit
set_option linter.unusedVariables false

/-- What stands for the longest behind k round trips. -/
def un (t : Int) : Nat → Int
  | 0 => t
  | k + 1 => hv k (un t k)

theorem hv_bd (m u : Int) (h0 : 0 ≤ u) : 0 ≤ hv m u ∧ hv m u ≤ u := by unfold hv; split <;> omega
theorem un_bd (t : Int) (h0 : 0 ≤ t) (k : Nat) : 0 ≤ un t k ∧ un t k ≤ t := by
  induction k with
  | zero => exact ⟨h0, Int.le_refl _⟩
  | succ k ih =>
    have := hv_bd k (un t k) ih.1
    exact ⟨this.1, Int.le_trans this.2 ih.2⟩

theorem un_eq (t : Int) (k : Nat) : un t k = t / 2 ^ (k / 16) := by
  induction k with
  | zero => simp [un]
  | succ k ih =>
    show hv k (un t k) = _
    rw [ih]
    by_cases h : (k + 1) % 16 = 0
    · rw [hv_yes (by omega), show (k + 1) / 16 = k / 16 + 1 by omega, Int.pow_succ, Int.ediv_ediv_of_nonneg (by exact Int.le_of_lt (Int.pow_pos (by omega)))]
    · rw [hv_no (by omega), show (k + 1) / 16 = k / 16 by omega]

theorem pow_big (n : Nat) (h : 64 ≤ n) : (9223372036854775808 : Int) ≤ 2 ^ n := by
  have h1 : (2 : Nat) ^ 64 ≤ 2 ^ n := Nat.pow_le_pow_right (by omega) h
  have h2 : (((2 : Nat) ^ 64 : Nat) : Int) ≤ (((2 : Nat) ^ n : Nat) : Int) := Int.ofNat_le.2 h1
  rw [Int.natCast_pow, Int.natCast_pow] at h2
  have h3 : (((2 : Nat) : Int)) ^ 64 = 18446744073709551616 := by decide
  rw [h3] at h2
  have h4 : ((2 : Nat) : Int) = 2 := rfl
  rw [h4] at h2
  omega

/-- Shifted right by as many bits as there are sixteens: what stands for the longest. -/
theorem shift_un (t : Int) (t0 : 0 ≤ t) (t1 : t ≤ 9223372036854775807) (len : Nat) (w : World) :
    (Op.shift .shr .i64 t .i64 ((len : Int) / 16)).run Try.prog w = .ok (.int .i64 (un t len)) w := by
  rw [shift_shr_any _ _ _ _ (by omega)]
  have e : ((len : Int) / 16).toNat = len / 16 := by omega
  have hb : IntKind.bits .i64 = 64 := rfl
  rw [e, hb, un_eq]
  show Result.ok (Value.int .i64 _) w = _
  by_cases h : len / 16 ≤ 64
  · rw [Nat.min_eq_left h]
  · rw [Nat.min_eq_right (by omega), Int.ediv_eq_zero_of_lt t0 (by have := pow_big 64 (by omega); omega), Int.ediv_eq_zero_of_lt t0 (by have := pow_big (len / 16) (by omega); omega)]

theorem below_drewN' (B : Nat) (w : World) (n : Nat) : Below B w (w.drewN n) := ⟨rfl, rfl, rfl, Nat.le_refl _, fun _ _ => rfl⟩

set_option maxRecDepth 100000 in
set_option maxHeartbeats 2000000 in
theorem script_some (t : Int) (b off len cap : Nat) (Z : Nat → Int) (w : World) (t0 : 0 ≤ t) (t1 : t ≤ 9223372036854775807) (hl : len ≤ 65536) (h0 : 0 < len)
    (HC : Hid (∀ k, k < len → w.cell? ⟨b, off + k, none⟩ = some (.int .i64 (Z k)))) (hb : b < w.heap.size) :
    Calls Try.prog 4 #[.int .i64 t, .slice (some ⟨b, off, none⟩) len cap] w fun e w' => e = .returned (.bool true) ∧ Below w.heap.size w w' := by
  go_enter Try.func4, Try.ntmps4
  go_wp2
  go_loop [5] (fun i => ∃ k : Nat, k ≤ len ∧ i = .int .i64 k ∧ Hid (∀ j, j < k → 0 ≤ Z j ∧ Z j ≤ 1152921504606846976)) (fun i => len - (intOf i).toNat)
  case atStart => exact ⟨0, Nat.zero_le _, rfl, fun j hj => absurd hj (by omega)⟩
  case round =>
    obtain ⟨k, hk, rfl, HZ⟩ := hrel
    by_cases hlt : k < len
    · have hck := HC.out k hlt
      by_cases hin : 0 ≤ Z k ∧ Z k ≤ 1152921504606846976
      · obtain ⟨hin0, hin1⟩ := hin
        go_wp2
        go_round
        case rel => exact ⟨k + 1, by omega, by go_num, fun j hj => by
          by_cases hjk : j < k
          · exact HZ.out j hjk
          · obtain rfl : j = k := by omega
            exact ⟨hin0, hin1⟩⟩
        case measure => simp [intOf]; omega
      · have hin' : Z k < 0 ∨ 1152921504606846976 < Z k := by omega
        clear hin
        rcases hin' with hin' | hin'
        · go_wp2
          go_ret
          exact ⟨rfl, Below.refl _ _⟩
        · go_wp2
          go_ret
          exact ⟨rfl, Below.refl _ _⟩
    · have e : len = k := by omega
      subst e
      go_wp2_with fail
      refine (new_any t w).mono ?_
      rintro e w1 ⟨rfl, hrt, hb1⟩
      have HR : Hid (RT w1 w.heap.size t 0 t 0 0) := hrt
      clear hrt
      go_wp2_with fail
      go_loopw [7, 8] (fun vh vi wr => ∃ (k : Nat) (h s y : Int), k ≤ len ∧ vi = .int .i64 k ∧ vh = .int .i64 h ∧ 0 ≤ h ∧ h ≤ 1152921504606846976 ∧ 0 ≤ s ∧ s ≤ h ∧ 0 ≤ y ∧ y ≤ h ∧ Hid (RT wr w.heap.size t s (un t k) y k) ∧ Hid (Below w.heap.size w wr)) (fun _ vi _ => len - (intOf vi).toNat)
      case atStart => exact ⟨0, 0, 0, 0, Nat.zero_le _, rfl, rfl, by omega, by omega, by omega, by omega, by omega, by omega, HR, hb1⟩
      case round =>
        obtain ⟨k, h, s, y, hk, rfl, rfl, a1, a2, a3, a4, a5, a6, HR, HB⟩ := hrel
        by_cases hlt : k < len
        · have hck : wr.cell? ⟨b, off + k, none⟩ = some (.int .i64 (Z k)) := (HB.out.cell hb).trans (HC.out k hlt)
          obtain ⟨z0, z1⟩ := HZ.out k hlt
          have ub := un_bd t t0 k
          by_cases hgt : h < Z k
          · go_wp2_with fail
            refine (zzmeasure_any w.heap.size t s (un t k) y k (Z k) (Z k) wr HR.out z0 (by omega) (by omega) a3 (by omega) ub.1 (by omega) (by omega) (by omega) a5 (by omega)).mono ?_
            rintro e w2 ⟨rfl, s', y', hr2, b1, b2, b3, b4, hb2⟩
            have HR2 : Hid (RT w2 w.heap.size t s' (hv k (un t k)) y' (k + 1)) := hr2
            have HB2 : Hid (Below w.heap.size w w2) := HB.out.trans hb2
            clear hr2 hb2
            go_wp2_with fail
            refine (fields_any w.heap.size t s' (hv k (un t k)) y' (k + 1) w2 HR2.out).mono ?_
            rintro e w3 ⟨rfl, n, rfl⟩
            go_wp2
            go_roundw
            case rel => exact ⟨k + 1, (Z k), s', y', by omega, by go_num, rfl, by omega, by omega, by omega, by omega, by omega, by omega, HR2.out.drewN n, HB2.out.trans (below_drewN' _ _ n)⟩
            case measure => simp [intOf]; omega
          · go_wp2_with fail
            refine (zzmeasure_any w.heap.size t s (un t k) y k (Z k) h wr HR.out z0 (by omega) (by omega) a3 (by omega) ub.1 (by omega) (by omega) (by omega) a5 (by omega)).mono ?_
            rintro e w2 ⟨rfl, s', y', hr2, b1, b2, b3, b4, hb2⟩
            have HR2 : Hid (RT w2 w.heap.size t s' (hv k (un t k)) y' (k + 1)) := hr2
            have HB2 : Hid (Below w.heap.size w w2) := HB.out.trans hb2
            clear hr2 hb2
            go_wp2_with fail
            refine (fields_any w.heap.size t s' (hv k (un t k)) y' (k + 1) w2 HR2.out).mono ?_
            rintro e w3 ⟨rfl, n, rfl⟩
            go_wp2
            go_roundw
            case rel => exact ⟨k + 1, h, s', y', by omega, by go_num, rfl, by omega, by omega, by omega, by omega, by omega, by omega, HR2.out.drewN n, HB2.out.trans (below_drewN' _ _ n)⟩
            case measure => simp [intOf]; omega
        · have e : len = k := by omega
          subst e
          go_wp2_with fail
          refine (fields_any w.heap.size t s (un t len) y len wr HR.out).mono ?_
          rintro e w3 ⟨rfl, n, rfl⟩
          have hm1 : ∀ w, (binOp .eql 52 (.map none) (.map none)).run Try.prog w = .ok (.bool true) w := fun w => by kernel_rfl
          have hm2 : ∀ w, (binOp .eql 53 (.map none) (.map none)).run Try.prog w = .ok (.bool true) w := fun w => by kernel_rfl
          have hsh := shift_un t t0 t1 len
          go_wp2
          go_ret
          exact ⟨rfl, HB.out.trans (below_drewN' _ _ n)⟩

/-- No round trip at all. -/
theorem script_empty (t : Int) (a : Option Addr) (cap : Nat) (w : World) (t0 : 0 ≤ t) (t1 : t ≤ 9223372036854775807) :
    Calls Try.prog 4 #[.int .i64 t, .slice a 0 cap] w fun e w' => e = .returned (.bool true) ∧ Below w.heap.size w w' := by
  go_enter Try.func4, Try.ntmps4
  go_wp2
  go_loop [5] (fun i => i = .int .i64 0) (fun _ => 0)
  case atStart => rfl
  case round =>
    subst hrel
    go_wp2_with fail
    refine (new_any t w).mono ?_
    rintro e w1 ⟨rfl, hrt, hb1⟩
    have HR : Hid (RT w1 w.heap.size t 0 t 0 0) := hrt
    clear hrt
    go_wp2_with fail
    go_loopw [7, 8] (fun vh vi wr => vi = .int .i64 0 ∧ vh = .int .i64 0 ∧ Hid (RT wr w.heap.size t 0 t 0 0) ∧ Hid (Below w.heap.size w wr)) (fun _ _ _ => 0)
    case atStart => exact ⟨rfl, rfl, HR, hb1⟩
    case round =>
      obtain ⟨rfl, rfl, HR, HB⟩ := hrel
      go_wp2_with fail
      refine (fields_any w.heap.size t 0 t 0 0 wr HR.out).mono ?_
      rintro e w3 ⟨rfl, n, rfl⟩
      have hm1 : ∀ w, (binOp .eql 52 (.map none) (.map none)).run Try.prog w = .ok (.bool true) w := fun w => by kernel_rfl
      have hm2 : ∀ w, (binOp .eql 53 (.map none) (.map none)).run Try.prog w = .ok (.bool true) w := fun w => by kernel_rfl
      go_wp2
      go_ret
      exact ⟨rfl, HB.out.trans (below_drewN' _ _ n)⟩

/-- Too many, or a timeout below nought: true at once. -/
theorem script_long (t : Int) (a : Option Addr) (len cap : Nat) (w : World) (hl : len ≤ maxLen) (h : 65536 < len) :
    Calls Try.prog 4 #[.int .i64 t, .slice a len cap] w fun e w' => e = .returned (.bool true) ∧ Below w.heap.size w w' := by
  unfold maxLen at hl
  go_enter Try.func4, Try.ntmps4
  go_wp2
  all_goals (go_ret; exact ⟨rfl, Below.refl _ _⟩)

theorem script_neg (t : Int) (a : Option Addr) (len cap : Nat) (w : World) (hl : len ≤ 65536) (h : t < 0) :
    Calls Try.prog 4 #[.int .i64 t, .slice a len cap] w fun e w' => e = .returned (.bool true) ∧ Below w.heap.size w w' := by
  go_enter Try.func4, Try.ntmps4
  go_wp2
  all_goals (go_ret; exact ⟨rfl, Below.refl _ _⟩)

end Go.Proofs.Qxb6612368a
