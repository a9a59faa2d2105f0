/-
  THE WALK OF THE LAW: FnSharesValuesByConstruction returns true, and writes nothing that was there.
-/
import Derived.Test.Qxb6609437aShares
namespace Go.Proofs.Qxb6609437a
open Go.RowKit

theorem clone_any (a : Option Addr) (len cap : Nat) (vs : List Value) (w : World) (hv : IsVals w a len cap vs) (hl : len ≤ 65536) :
    Calls Try.prog 5 #[.slice a len cap] w fun e w' => ∃ a' c', e = .returned (.slice a' len c') ∧ Below w.heap.size w w' ∧ (0 < len → ∃ b, w.heap.size ≤ b ∧ a' = some ⟨b, 0, none⟩ ∧ ∃ cs, w'.heap[b]? = some (.cells cs 33 (0, 0))) := by
  rcases hv with ⟨rfl, rfl, rfl, rfl⟩ | ⟨x, rfl, h2, h3, h4, h5, h6⟩
  · refine (clone_nil w).mono fun e w' ⟨he, hw⟩ => ?_
    subst hw
    exact ⟨none, 0, he, Below.refl _ _, fun h => absurd h (by omega)⟩
  · exact (clone_some x len cap vs h4 hl w h5 h6).mono fun e w' ⟨he, hb, hr⟩ => ⟨_, _, he, hb, fun _ => ⟨_, Nat.le_refl _, rfl, hr⟩⟩

/-- One of the two is too long: true at once. -/
theorem law_long (a : Option Addr) (la ca : Nat) (b : Option Addr) (lb cb : Nat) (w : World) (ha : la ≤ maxLen) (hb : lb ≤ maxLen) (h : 65536 < la ∨ 65536 < lb) :
    Calls Try.prog 3 #[.slice a la ca, .slice b lb cb] w fun e w' => e = .returned (.bool true) ∧ Below w.heap.size w w' := by
  unfold maxLen at ha hb
  by_cases h1 : 65536 < la
  · clear h
    go_enter Try.func3, Try.ntmps3
    go_wp2
    all_goals (go_ret; exact ⟨rfl, Below.refl _ _⟩)
  · have h2 : 65536 < lb := by omega
    clear h
    go_enter Try.func3, Try.ntmps3
    go_wp2
    all_goals (go_ret; exact ⟨rfl, Below.refl _ _⟩)

/-- A Series that bears these values and nothing else, as the composite lays it. -/
def ser (a : Option Addr) (l c : Nat) : Obj := .cells #[.string ⟨#[]⟩, .string ⟨#[]⟩, .int .i64 0, .int .i64 0, .slice a l c, .int .u32 0, .slice none 0 0] 30

theorem ser_world (w2 : World) (a1 : Option Addr) (la c1 : Nat) (b1 : Option Addr) (lb c2 : Nat) :
    ∃ X, ((w2.alloc (ser a1 la c1)).alloc (ser a1 la c1)).alloc (ser b1 lb c2) = X ∧ Below w2.heap.size w2 X ∧ X.cell? ⟨w2.heap.size, 4, none⟩ = some (.slice a1 la c1) ∧ X.cell? ⟨w2.heap.size + 1, 4, none⟩ = some (.slice a1 la c1) ∧ X.cell? ⟨w2.heap.size + 1 + 1, 4, none⟩ = some (.slice b1 lb c2) := by
  refine ⟨_, rfl, (((Below.refl _ _).alloc (Nat.le_refl _) _).alloc (by simp) _).alloc (by simp; omega) _, ?_, ?_, ?_⟩ <;> simp [ser, go_sem, World.cell?_alloc_past]

theorem Below.draws (B : Nat) (w : World) (n : Nat) : Below B w (w.drewN n) := ⟨rfl, rfl, rfl, Nat.le_refl _, fun _ _ => rfl⟩

theorem row_later {n B : Nat} {a : Option Addr} {w Y : World} (h : 0 < n → ∃ b, B ≤ b ∧ a = some ⟨b, 0, none⟩ ∧ ∃ cs, w.heap[b]? = some (.cells cs 33 (0, 0))) (hb : Below w.heap.size w Y) :
    0 < n → ∃ b, a = some ⟨b, 0, none⟩ ∧ ∃ cs, Y.heap[b]? = some (.cells cs 33 (0, 0)) := by
  intro hn
  obtain ⟨b, _, e, cs, hc⟩ := h hn
  exact ⟨b, e, cs, by rw [hb.block b (lt_of_block hc)]; exact hc⟩

theorem shB_self (a : Option Addr) (l : Nat) : shB a l a l = decide (0 < l) := by simp [shB]

theorem shB_other {w w1 w2 : World} {a b : Option Addr} {la lb : Nat} (h1 : 0 < la → ∃ x, w.heap.size ≤ x ∧ a = some ⟨x, 0, none⟩ ∧ ∃ cs, w1.heap[x]? = some (.cells cs 33 (0, 0))) (h2 : 0 < lb → ∃ y, w1.heap.size ≤ y ∧ b = some ⟨y, 0, none⟩ ∧ ∃ cs, w2.heap[y]? = some (.cells cs 33 (0, 0))) :
    shB a la b lb = false ∧ shB b lb a la = false := by
  unfold shB
  by_cases hla : 0 < la
  · by_cases hlb : 0 < lb
    · obtain ⟨x, _, rfl, _, hx⟩ := h1 hla
      obtain ⟨y, hy, rfl, _⟩ := h2 hlb
      have hxs := lt_of_block hx
      have hne : ¬ (some (⟨x, 0, none⟩ : Addr) = some ⟨y, 0, none⟩) := fun h => by
        have := congrArg (fun o : Option Addr => o.elim 0 Addr.block) h
        simp at this
        omega
      have hne' : ¬ (some (⟨y, 0, none⟩ : Addr) = some ⟨x, 0, none⟩) := fun h => hne h.symm
      rw [decide_eq_false hne, decide_eq_false hne']
      simp
    · simp [hlb]
  · simp [hla]

set_option maxHeartbeats 1000000 in
theorem law_main (a : Option Addr) (la ca : Nat) (va : List Value) (b : Option Addr) (lb cb : Nat) (vb : List Value) (w : World) (hva : IsVals w a la ca va) (hvb : IsVals w b lb cb vb) (ha : la ≤ 65536) (hb : lb ≤ 65536) :
    Calls Try.prog 3 #[.slice a la ca, .slice b lb cb] w fun e w' => e = .returned (.bool true) ∧ Below w.heap.size w w' := by
  go_enter Try.func3, Try.ntmps3
  go_wp2_with (go_at_call 4; go_in)
  refine (clone_any a la ca va _ hva ha).mono ?_
  rintro e w1 ⟨a1, c1, rfl, hb1, hr1⟩
  go_wp2_with fail
  refine (clone_any b lb cb vb _ (hvb.later hb1) hb).mono ?_
  rintro e w2 ⟨b1, c2, rfl, hb2, hr2⟩
  go_wp2_with fail
  obtain ⟨X, hX, hbX, x0, x1, x2⟩ := ser_world w2 a1 la c1 b1 lb c2
  simp only [ser] at hX
  rw [hX]
  clear hX
  have s1 := shB_self a1 la
  have s2 := shB_self b1 lb
  obtain ⟨s3, s4⟩ := shB_other hr1 hr2
  have R1 : ∀ n, Hid (0 < la → ∃ x, a1 = some ⟨x, 0, none⟩ ∧ ∃ cs, (X.drewN n).heap[x]? = some (.cells cs 33 (0, 0))) := fun n => row_later (Y := X.drewN n) hr1 ((hb2.trans (hbX.mono hb2.size)).trans (Below.draws _ X n))
  have R2 : ∀ n, Hid (0 < lb → ∃ x, b1 = some ⟨x, 0, none⟩ ∧ ∃ cs, (X.drewN n).heap[x]? = some (.cells cs 33 (0, 0))) := fun n => row_later (Y := X.drewN n) hr2 (hbX.trans (Below.draws _ X n))
  have hbA : Hid (Below w.heap.size w X) := hb1.trans ((hb2.mono hb1.size).trans (hbX.mono (Nat.le_trans hb1.size hb2.size)))
  clear hr1 hr2 hva hvb
  refine (zz_any _ _ a1 la c1 a1 la c1 X (R1 0).out (R1 0).out x0 x1).mono ?_
  rintro e w3 ⟨rfl, n3, rfl⟩
  go_wp2_with fail
  refine (zz_any _ _ a1 la c1 a1 la c1 (X.drewN n3) (R1 n3).out (R1 n3).out x1 x0).mono ?_
  rintro e w4 ⟨rfl, n4, rfl⟩
  go_wp2_with fail
  refine (zz_any _ _ a1 la c1 a1 la c1 (X.drewN (n3 + n4)) (R1 _).out (R1 _).out x0 x0).mono ?_
  rintro e w5 ⟨rfl, n5, rfl⟩
  go_wp2_with fail
  refine (zz_any _ _ b1 lb c2 b1 lb c2 (X.drewN (n3 + n4 + n5)) (R2 _).out (R2 _).out x2 x2).mono ?_
  rintro e w6 ⟨rfl, n6, rfl⟩
  go_wp2_with fail
  refine (zz_any _ _ a1 la c1 b1 lb c2 (X.drewN (n3 + n4 + n5 + n6)) (R1 _).out (R2 _).out x0 x2).mono ?_
  rintro e w7 ⟨rfl, n7, rfl⟩
  go_wp2_with fail
  refine (zz_any _ _ b1 lb c2 a1 la c1 (X.drewN (n3 + n4 + n5 + n6 + n7)) (R2 _).out (R1 _).out x2 x0).mono ?_
  rintro e w8 ⟨rfl, n8, rfl⟩
  go_wp2_with fail
  go_ret
  exact ⟨rfl, hbA.out.trans (Below.draws _ X _)⟩

end Go.Proofs.Qxb6609437a
