/-
  THE WALK OF THE LAW FnHandoffTokenAgreesWithFirstToken.
-/
import Derived.Test.Qxb6612368aSame
import Derived.Deep.Cut
namespace Go.Proofs.Qxb6612368a
open Go.RowKit
set_option linter.unusedVariables false
attribute [local go_sem] msg_0 msg_1 msg_2 msg_3 msg_4 msg_5 msg_26 msg_28

/-- A whole row loaded, the operation's guard saying yes. -/
theorem wpList_load_row_on {P : Program} {ops : Array Oper} {rest : List Oper} {o : Oper} {a : Act} {w : World} {Q : Exit → Act → World → Prop} (hw : Region.wanted o (yielded ops a.tmps) = true) (ty : TypeId) (x : Operand) (ho : o.op = .load ty x)
    (g : Nat) (hx : a.eval x = .pointer (some ⟨g, 0, none⟩)) (t : TypeId) (cs : Array Value) (fr : Nat × Nat) (d : TypeDesc) (hg : w.heap[g]? = some (.cells cs t fr))
    (hu : P.underlying ty = some d) (hd : (match d with | .struct _ | .array _ _ => true | _ => false) = true) (hi : (P.info? ty).map (·.size) = some cs.size)
    (h : wpList P ops Q rest (a.put o.dst (.agg cs)) w) : wpList P ops Q (o :: rest) a w := by
  unfold wpList
  rw [if_pos hw]
  exact Or.inl (wp_load_row ty x ho g hx t cs fr d hg hu hd hi h)

/-- The lengths are too great: true at once. -/
theorem hand_long (to c t : Int) (a : Option Addr) (la ca : Nat) (b : Option Addr) (lb cb : Nat) (S : Nat → ByteArray) (w : World) (ha : la ≤ maxLen) (hb : lb ≤ maxLen) (hS : IsStrs w b lb S) (h : 65536 < la ∨ 65536 < lb) :
    Calls Try.prog 3 #[.int .i64 to, .int .u64 c, .int .u64 t, .slice a la ca, .slice b lb cb] w fun e w' => e = .returned (.bool true) ∧ Below w.heap.size w w' := by
  have HS : Hid (IsStrs w b lb S) := hS
  clear hS
  by_cases h1 : 65536 < la
  · clear h
    go_enter Try.func3, Try.ntmps3
    go_wp2_with fail
    refine (bytes_any to c t a la ca b lb cb S w ha hb HS.out).mono ?_
    rintro e w' ⟨⟨r, rfl⟩, rfl⟩
    cases r
    all_goals
      go_wp2_with fail
      go_ret
      exact ⟨rfl, Below.refl _ _⟩
  · have h2 : 65536 < lb := by omega
    clear h
    go_enter Try.func3, Try.ntmps3
    go_wp2_with fail
    refine (bytes_any to c t a la ca b lb cb S w ha hb HS.out).mono ?_
    rintro e w' ⟨⟨r, rfl⟩, rfl⟩
    cases r
    all_goals
      go_wp2_with fail
      go_ret
      exact ⟨rfl, Below.refl _ _⟩

theorem below_draw (B : Nat) (w : World) (n : Nat) : Below B w (w.drewN n) := ⟨rfl, rfl, rfl, Nat.le_refl _, fun _ _ => rfl⟩

/-- A token laid into a variable of its own. -/
theorem var_world (w : World) (m : Array Value) : ∃ X, (w.alloc (.cells msg0 40)).setRow w.heap.size m = X ∧ Below w.heap.size w X ∧ X.heap[w.heap.size]? = some (.cells m 40 (0, 0)) ∧ w.heap.size < X.heap.size :=
  ⟨_, rfl, below_setRow ((Below.refl _ _).alloc (Nat.le_refl _) _) (Nat.le_refl _) _, setRow_heap _ _ _ _ 40 (0, 0) (heap_alloc_new w _), by simp⟩

set_option maxRecDepth 100000 in
set_option maxHeartbeats 4000000 in
theorem hand_main (to c t : Int) (a : Option Addr) (la ca : Nat) (Z : Nat → Int) (b : Option Addr) (lb cb : Nat) (S : Nat → ByteArray) (w : World) (ha : la ≤ 65536) (hb : lb ≤ 65536) (hn : a = none → la = 0 ∧ ca = 0) (hZ : IsInts w a la Z) (hS : IsStrs w b lb S) :
    Calls Try.prog 3 #[.int .i64 to, .int .u64 c, .int .u64 t, .slice a la ca, .slice b lb cb] w fun e w' => e = .returned (.bool true) ∧ Below w.heap.size w w' := by
  have HS : Hid (IsStrs w b lb S) := hS
  have HZ : Hid (IsInts w a la Z) := hZ
  have HN : Hid (a = none → la = 0 ∧ ca = 0) := hn
  clear hS hZ hn
  have hnil := fun (w : World) (a : Option Addr) (n c : Nat) => Lib.run_eql_slice_nil (P := Try.prog) w 36 62 a n c 0 0 Try.underlying36
  go_enter Try.func3, Try.ntmps3
  go_wp2_with fail
  refine (bytes_any to c t a la ca b lb cb S w (by unfold maxLen; omega) (by unfold maxLen; omega) HS.out).mono ?_
  rintro e w' ⟨⟨r, rfl⟩, rfl⟩
  cases r
  · go_wp2_with fail
    go_ret
    exact ⟨rfl, Below.refl _ _⟩
  · go_wp2_with fail
    refine (viewBytes_any a la ca b lb cb S w' ha hb HS.out).mono ?_
    rintro e w'' ⟨⟨r, rfl⟩, rfl⟩
    by_cases hr : 1048576 < r
    · go_wp2_with fail
      go_ret
      exact ⟨rfl, Below.refl _ _⟩
    · go_wp2_with fail
      refine (buildView_any a la ca Z b lb cb S w'' ha hb HN.out HZ.out HS.out).mono ?_
      rintro e w1 ⟨va, vn, rfl, hvn, hv, hb1⟩
      have HV : Hid (ViewOk w1 va vn) := hv
      clear hv
      go_wp2_with fail
      refine (handoff_any to c t _).mono ?_
      rintro e w2 ⟨rfl, hb2⟩
      go_wp2_with fail
      refine (htoken_any to c t va vn _).mono ?_
      rintro e w3 ⟨rfl, hb3⟩
      go_wp2_with (refine wpList_store_row rfl 40 (.tmp 12) (.tmp 41) rfl w3.heap.size (msg c t va vn 0) rfl rfl 40 msg0 (heap_alloc_new w3 _) (msg_info _ _ _ _ _) rfl (msg_one _ _ _ _ _) ?_)
      obtain ⟨X3, hX3, hbX3, hA3, hs3⟩ := var_world w3 (msg c t va vn 0)
      simp only [msg0] at hX3
      rw [hX3]
      clear hX3
      have HBX : Hid (Below w''.heap.size w'' X3) := ((hb1.trans (hb2.mono hb1.size)).trans (hb3.mono (Nat.le_trans hb1.size hb2.size))).trans (hbX3.mono (Nat.le_trans hb1.size (Nat.le_trans hb2.size hb3.size)))
      have HVX : Hid (ViewOk X3 va vn) := ((HV.out.later hb2).later hb3).later hbX3
      clear HV hb1 hb2 hb3 hbX3 HS HZ HN
      refine (zzfirst_any c t va vn _ hvn).mono ?_
      rintro e w5 ⟨rfl, hb5⟩
      have HA5 : Hid (w5.heap[w3.heap.size]? = some (.cells (msg c t va vn 0) 40 (0, 0))) := by
        show w5.heap[w3.heap.size]? = _
        rw [hb5.block _ hs3]; exact hA3
      have HB5 : Hid (Below w''.heap.size w'' w5) := HBX.out.trans (hb5.mono HBX.out.size)
      have HV5 : Hid (ViewOk w5 va vn) := HVX.out.later hb5
      clear HBX HVX hb5 hs3 hA3
      go_upto_region 10 with (refine wpList_store_row rfl 40 (.tmp 13) (.tmp 46) rfl w5.heap.size (msg c t va vn ((vn : Int) - 1)) rfl rfl 40 msg0 (heap_alloc_new w5 _) (msg_info _ _ _ _ _) rfl (msg_one _ _ _ _ _) ?_)
      obtain ⟨X5, hX5, hbX5, hB5, hs5⟩ := var_world w5 (msg c t va vn ((vn : Int) - 1))
      simp only [msg0] at hX5
      rw [hX5]
      clear hX5
      have HAX : Hid (X5.heap[w3.heap.size]? = some (.cells (msg c t va vn 0) 40 (0, 0))) := by
        show X5.heap[w3.heap.size]? = _
        rw [hbX5.block _ (lt_of_block HA5.out)]; exact HA5.out
      have HBX : Hid (X5.heap[w5.heap.size]? = some (.cells (msg c t va vn ((vn : Int) - 1)) 40 (0, 0))) := hB5
      have HWX : Hid (Below w''.heap.size w'' X5) := HB5.out.trans (hbX5.mono HB5.out.size)
      have HVX : Hid (ViewOk X5 va vn) := HV5.out.later hbX5
      have cA : ∀ o, X5.cell? ⟨w3.heap.size, o, none⟩ = (msg c t va vn 0)[o]? := fun o => cell_of_row X5 _ o _ 40 _ HAX.out
      have cB : ∀ o, X5.cell? ⟨w5.heap.size, o, none⟩ = (msg c t va vn ((vn : Int) - 1))[o]? := fun o => cell_of_row X5 _ o _ 40 _ HBX.out
      clear hB5 hbX5 hs5 HA5 HB5 HV5
      go_wp2_with fail
      refine (sameView_any va vn X5 hvn HVX.out).mono ?_
      rintro e w6 ⟨rfl, m, rfl⟩
      go_wp2_with (refine wpList_load_row_on rfl 40 (.tmp 12) rfl w3.heap.size rfl 40 (msg c t va vn 0) (0, 0) _ HAX.out Try.underlying40 rfl (msg_info _ _ _ _ _) ?_)
      refine (restZero_any c t va vn 0 (X5.drewN m)).mono ?_
      rintro e w7 ⟨rfl, hb7⟩
      have HA7 : Hid (w7.heap[w3.heap.size]? = some (.cells (msg c t va vn 0) 40 (0, 0))) := by
        show w7.heap[w3.heap.size]? = _
        rw [hb7.block _ (lt_of_block (w := X5) HAX.out)]; exact HAX.out
      have HC7 : Hid (w7.heap[w5.heap.size]? = some (.cells (msg c t va vn ((vn : Int) - 1)) 40 (0, 0))) := by
        show w7.heap[w5.heap.size]? = _
        rw [hb7.block _ (lt_of_block (w := X5) HBX.out)]; exact HBX.out
      have HW7 : Hid (Below w''.heap.size w'' w7) := (HWX.out.trans (below_draw _ X5 m)).trans (hb7.mono HWX.out.size)
      have HV7 : Hid (ViewOk w7 va vn) := (HVX.out.later (w1 := X5.drewN m) ⟨rfl, rfl, rfl, Nat.le_refl _, fun _ _ => rfl⟩).later hb7
      clear cA cB HAX HBX HWX HVX hb7
      go_wp2_with (first | (refine wpList_load_row_on rfl 40 (.tmp 12) rfl w3.heap.size rfl 40 (msg c t va vn 0) (0, 0) _ HA7.out Try.underlying40 rfl (msg_info _ _ _ _ _) ?_) | (refine wpList_load_row_on rfl 40 (.tmp 13) rfl w5.heap.size rfl 40 (msg c t va vn ((vn : Int) - 1)) (0, 0) _ HC7.out Try.underlying40 rfl (msg_info _ _ _ _ _) ?_))
      refine (sameMessage_any c t va vn 0 ((vn : Int) - 1) w7 hvn HV7.out).mono ?_
      rintro e w8 ⟨rfl, hb8⟩
      go_wp2_with fail
      go_ret
      exact ⟨rfl, HW7.out.trans (hb8.mono HW7.out.size)⟩

end Go.Proofs.Qxb6612368a
