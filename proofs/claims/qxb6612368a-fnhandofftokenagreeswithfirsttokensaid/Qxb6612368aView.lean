/-
  THE WALKS over zzBytes, zzViewBytes, zzBuildView, zzSameView, zzSameNames.
-/
import Derived.Test.Qxb6612368aRows
import Derived.WalkKit
import Derived.WalkSpells
import Derived.WalkLawsBesides
import Derived.ProofKit
import Derived.Below
import Derived.Deep.QuietTactic
import Derived.BigQuiet
import Derived.Lib.SliceRun
namespace Go.Proofs.Qxb6612368a
open Go.RowKit
set_option linter.unusedVariables false

/-- What is told of a []string that came in: cell k holds the string S k. -/
def IsStrs (w : World) (b : Option Addr) (len : Nat) (S : Nat → ByteArray) : Prop :=
  ∀ k, k < len → ∃ bb bo, b = some ⟨bb, bo, none⟩ ∧ w.cell? ⟨bb, bo + k, none⟩ = some (.string (S k)) ∧ (S k).size ≤ maxLen

/-- What is told of a []int that came in. -/
def IsInts (w : World) (a : Option Addr) (len : Nat) (Z : Nat → Int) : Prop :=
  ∀ k, k < len → ∃ ab ao, a = some ⟨ab, ao, none⟩ ∧ w.cell? ⟨ab, ao + k, none⟩ = some (.int .i64 (Z k))

/-- Some bool came back. -/
def AnyBool (e : Ending) : Prop := ∃ r, e = .returned (.bool r)
theorem anyBool (b : Bool) : AnyBool (.returned (.bool b)) := ⟨b, rfl⟩

theorem bytes_any (to count tickets : Int) (a : Option Addr) (la ca : Nat) (b : Option Addr) (lb cb : Nat) (S : Nat → ByteArray) (w : World) (ha : la ≤ maxLen) (hb : lb ≤ maxLen) (hS : IsStrs w b lb S) :
    Calls Try.prog 5 #[.int .i64 to, .int .u64 count, .int .u64 tickets, .slice a la ca, .slice b lb cb] w fun e w' => AnyBool e ∧ w' = w := by
  have HS : Hid (IsStrs w b lb S) := hS
  clear hS
  unfold maxLen at ha hb
  go_enter Try.func5, Try.ntmps5
  go_wp2
  · go_ret
    exact ⟨anyBool _, rfl⟩
  · go_ret
    exact ⟨anyBool _, rfl⟩
  · go_ret
    exact ⟨anyBool _, rfl⟩
  · go_loop [11, 12] (fun n i => ∃ (k : Nat) (t : Int), k ≤ lb ∧ i = .int .i64 k ∧ n = .int .i64 t ∧ 0 ≤ t ∧ t ≤ 1048576) (fun _ i => lb - (intOf i).toNat)
    case atStart => exact ⟨0, _, Nat.zero_le _, rfl, rfl, by omega, by omega⟩
    case round =>
      obtain ⟨k, t, hk, rfl, rfl, t0, t1⟩ := hrel
      by_cases hlt : k < lb
      · obtain ⟨bb, bo, rfl, hc, hsz⟩ := HS.out k hlt
        unfold maxLen at hsz
        by_cases hbig : 1048576 < (S k).size
        · go_wp2
          go_ret
          exact ⟨anyBool _, rfl⟩
        · by_cases hsum : 1048576 < t + (S k).size
          · go_wp2
            go_ret
            exact ⟨anyBool _, rfl⟩
          · go_wp2
            go_round
            case rel => exact ⟨k + 1, _, by omega, by go_num, rfl, by omega, by omega⟩
            case measure => simp [intOf]; omega
      · go_wp2
        go_ret
        exact ⟨anyBool _, rfl⟩

theorem viewBytes_any (a : Option Addr) (la ca : Nat) (b : Option Addr) (lb cb : Nat) (S : Nat → ByteArray) (w : World) (ha : la ≤ 65536) (hb : lb ≤ 65536) (hS : IsStrs w b lb S) :
    Calls Try.prog 6 #[.slice a la ca, .slice b lb cb] w fun e w' => (∃ r, e = .returned (.int .i64 r)) ∧ w' = w := by
  have HS : Hid (IsStrs w b lb S) := hS
  clear hS
  go_enter Try.func6, Try.ntmps6
  go_wp2
  go_loop [5, 6] (fun n i => ∃ (k : Nat) (t : Int), k ≤ lb ∧ i = .int .i64 k ∧ n = .int .i64 t) (fun _ i => lb - (intOf i).toNat)
  case atStart => exact ⟨0, _, Nat.zero_le _, rfl, rfl⟩
  case round =>
    obtain ⟨k, t, hk, rfl, rfl⟩ := hrel
    by_cases hlt : k < lb
    · obtain ⟨bb, bo, rfl, hc, hsz⟩ := HS.out k hlt
      by_cases hsum : 1048576 < wrap64 (t + (S k).size)
      · go_wp2
        go_ret
        exact ⟨⟨_, rfl⟩, rfl⟩
      · go_wp2
        go_round
        case rel => exact ⟨k + 1, _, by omega, by go_num, rfl⟩
        case measure => simp [intOf]; omega
    · go_wp2
      go_ret
      exact ⟨⟨_, rfl⟩, rfl⟩

/-- zzSameNames of two nil slices. -/
theorem sameNames_nil (w : World) :
    Calls Try.prog 20 #[.slice none 0 0, .slice none 0 0] w fun e w' => e = .returned (.bool true) ∧ w' = w := by
  have hnil := fun (w : World) (a : Option Addr) (n c : Nat) => Lib.run_eql_slice_nil (P := Try.prog) w 36 62 a n c 0 0 Try.underlying36
  go_enter Try.func20, Try.ntmps20
  go_wp2
  go_loop [5] (fun i => i = .int .i64 0) (fun _ => 0)
  case atStart => rfl
  case round =>
    subst hrel
    go_wp2
    go_ret
    exact ⟨rfl, rfl⟩

/-- The row of a view: n members, each a number and a string, from the head of block g on. -/
def IsView (w : World) (g n : Nat) : Prop :=
  ∀ i, i < n → ∃ x s, w.cell? ⟨g, i * 2, none⟩ = some (.int .i64 x) ∧ w.cell? ⟨g, i * 2 + 1, none⟩ = some (.string s)

theorem IsView.later {w w1 : World} {g n : Nat} (h : IsView w g n) (hb : Below w.heap.size w w1) : IsView w1 g n := by
  intro i hi
  obtain ⟨x, s, c0, c1⟩ := h i hi
  exact ⟨x, s, (hb.cell (World.block_lt_of_cell? w _ c0)).trans c0, (hb.cell (World.block_lt_of_cell? w _ c1)).trans c1⟩

theorem IsView.set {w : World} {g n : Nat} (h : IsView w g n) (k : Nat) (x : Int) (s : ByteArray) : IsView ((w.setCell ⟨g, k * 2, none⟩ (.int .i64 x)).setCell ⟨g, k * 2 + 1, none⟩ (.string s)).drew g n := by
  intro i hi
  obtain ⟨x', s', c0, c1⟩ := h i hi
  by_cases hik : i = k
  · subst hik
    refine ⟨x, s, ?_, ?_⟩
    · show ((w.setCell _ _).setCell _ _).cell? _ = _
      rw [World.cell?_setCell_other _ _ _ _ (by simp)]
      exact World.cell?_setCell_same _ _ _ c0
    · show ((w.setCell _ _).setCell _ _).cell? _ = _
      exact World.cell?_setCell_same _ _ _ (by rw [World.cell?_setCell_other _ _ _ _ (by simp)]; exact c1)
  · refine ⟨x', s', ?_, ?_⟩
    · show ((w.setCell _ _).setCell _ _).cell? _ = _
      rw [World.cell?_setCell_other _ _ _ _ (by simp), World.cell?_setCell_other _ _ _ _ (by simp)]
      exact c0
    · show ((w.setCell _ _).setCell _ _).cell? _ = _
      rw [World.cell?_setCell_other _ _ _ _ (by simp), World.cell?_setCell_other _ _ _ _ (by simp)]
      exact c1

set_option maxHeartbeats 1000000 in
theorem sameView_some (g n : Nat) (w : World) (hn : n ≤ 65536) (HV : Hid (IsView w g n)) :
    Calls Try.prog 11 #[.slice (some ⟨g, 0, none⟩) n n, .slice (some ⟨g, 0, none⟩) n n] w fun e w' => e = .returned (.bool true) ∧ ∃ m, w' = w.drewN m := by
  have hnil := fun (w : World) (a : Option Addr) (n c : Nat) => Lib.run_eql_slice_nil (P := Try.prog) w 28 34 a n c 0 0 Try.underlying28
  go_enter Try.func11, Try.ntmps11
  go_wp2
  go_loopw [5] (fun i wr => ∃ k : Nat, k ≤ n ∧ i = .int .i64 k ∧ ∃ m, wr = w.drewN m) (fun i _ => n - (intOf i).toNat)
  case atStart => exact ⟨0, Nat.zero_le _, rfl, 0, rfl⟩
  case round =>
    obtain ⟨k, hk, rfl, m, rfl⟩ := hrel
    by_cases hlt : k < n
    · obtain ⟨x, s, c0, c1⟩ := HV.out k hlt
      have hki : (k : Int) < (n : Int) := by omega
      go_wp2
      go_quiet (fail)
      go_wp2
      go_roundw
      case rel => exact ⟨k + 1, by omega, by go_num, _, rfl⟩
      case measure => simp [intOf]; omega
    · go_wp2
      go_ret
      exact ⟨rfl, m, rfl⟩

theorem sameView_nil (w : World) :
    Calls Try.prog 11 #[.slice none 0 0, .slice none 0 0] w fun e w' => e = .returned (.bool true) ∧ ∃ m, w' = w.drewN m := by
  have hnil := fun (w : World) (a : Option Addr) (n c : Nat) => Lib.run_eql_slice_nil (P := Try.prog) w 28 34 a n c 0 0 Try.underlying28
  go_enter Try.func11, Try.ntmps11
  go_wp2
  go_loop [5] (fun i => i = .int .i64 0) (fun _ => 0)
  case atStart => rfl
  case round =>
    subst hrel
    go_wp2
    go_ret
    exact ⟨rfl, 0, rfl⟩

/-! ### zzBuildView -/
theorem info34 : (Try.prog.info? 34).map (fun i => (i.zero, i.size, i.bytes)) = some (some (.agg #[.int .i64 0, .string ⟨#[]⟩]), 2, 24) := by kernel_rfl

theorem make_view (n : Nat) (hn : n ≤ 65536) (w : World) : (Instr.makeSlice 28 (.int .i64 (n : Int)) (.int .i64 (n : Int))).run Try.prog w = .ok (.slice (some ⟨w.heap.size, 0, none⟩) n n) (w.alloc (.cells (madeCells #[.int .i64 0, .string ⟨#[]⟩] (n * 2)) 34)) := by
  obtain ⟨i, hi, hz⟩ := Option.map_eq_some_iff.1 info34
  simp only [Prod.mk.injEq] at hz
  obtain ⟨hz0, hz1, hz2⟩ := hz
  have hr := run_make (P := Try.prog) w 28 34 i _ Try.underlying28 hi hz0 .i64 .i64 n n (by omega) (Int.le_refl _) (by rw [hz2]; omega) (by omega)
  simp only [Int.toNat_natCast, hz1] at hr
  exact hr

theorem made_view (n : Nat) (w : World) : IsView (w.alloc (.cells (madeCells #[.int .i64 0, .string ⟨#[]⟩] (n * 2)) 34)) w.heap.size n := by
  intro i hi
  refine ⟨0, ⟨#[]⟩, ?_, ?_⟩
  · simp [go_sem, madeCells, show i * 2 < n * 2 by omega]
  · have e : (i * 2 + 1) % 2 = 1 := by omega
    simp [go_sem, madeCells, show i * 2 + 1 < n * 2 by omega, e]

theorem made_free (n : Nat) (w : World) (o : Nat) : (w.alloc (.cells (madeCells #[.int .i64 0, .string ⟨#[]⟩] (n * 2)) 34)).frozen? ⟨w.heap.size, o, none⟩ = false := by
  simp [go_sem]

theorem buildView_nil (b : Option Addr) (lb cb : Nat) (w : World) :
    Calls Try.prog 7 #[.slice none 0 0, .slice b lb cb] w fun e w' => e = .returned (.slice none 0 0) ∧ w' = w := by
  have hnil := fun (w : World) (a : Option Addr) (n c : Nat) => Lib.run_eql_slice_nil (P := Try.prog) w 23 3 a n c 0 0 Try.underlying23
  go_enter Try.func7, Try.ntmps7
  go_wp2
  go_ret
  exact ⟨rfl, rfl⟩

set_option maxHeartbeats 1000000 in
theorem buildView_addrs (A : Addr) (la ca : Nat) (Z : Nat → Int) (b : Option Addr) (lb cb : Nat) (S : Nat → ByteArray) (w : World) (ha : la ≤ 65536) (hb : lb ≤ 65536) (hlt : lb < la) (HZ : Hid (IsInts w (some A) la Z)) (HS : Hid (IsStrs w b lb S)) :
    Calls Try.prog 7 #[.slice (some A) la ca, .slice b lb cb] w fun e w' => e = .returned (.slice (some ⟨w.heap.size, 0, none⟩) lb lb) ∧ IsView w' w.heap.size lb ∧ Below w.heap.size w w' := by
  have hnil := fun (w : World) (a : Option Addr) (n c : Nat) => Lib.run_eql_slice_nil (P := Try.prog) w 23 3 a n c 0 0 Try.underlying23
  have hmk := make_view lb hb
  go_enter Try.func7, Try.ntmps7
  go_wp2
  go_loopw [7] (fun i wr => ∃ k : Nat, k ≤ lb ∧ i = .int .i64 k ∧ Hid (IsView wr w.heap.size lb) ∧ Hid (∀ o, wr.frozen? ⟨w.heap.size, o, none⟩ = false) ∧ Hid (Below w.heap.size w wr)) (fun i _ => lb - (intOf i).toNat)
  case atStart => exact ⟨0, Nat.zero_le _, rfl, made_view lb w, made_free lb w, (Below.refl _ _).alloc (Nat.le_refl _) _⟩
  case round =>
    obtain ⟨k, hk, rfl, HV, HF, HB⟩ := hrel
    by_cases hkl : k < lb
    · obtain ⟨x, s, c0, c1⟩ := HV.out k hkl
      have f0 := HF.out (k * 2)
      have f1 := HF.out (k * 2 + 1)
      obtain ⟨ab, ao, ea, cz⟩ := HZ.out k (by omega)
      obtain rfl : A = ⟨ab, ao, none⟩ := Option.some.inj ea
      obtain ⟨bb, bo, rfl, cs, hsz⟩ := HS.out k hkl
      have dz := (HB.out.cell (World.block_lt_of_cell? w _ cz)).trans cz
      have ds := (HB.out.cell (World.block_lt_of_cell? w _ cs)).trans cs
      have i1 : (k : Int) < (la : Int) := by omega
      have i2 : (k : Int) < (lb : Int) := by omega
      clear ea cz cs hsz
      go_wp2
      go_region
      all_goals go_wp2
      go_roundw
      case rel => exact ⟨k + 1, by omega, by go_num, HV.out.set k _ _, fun o => (World.frozen?_setCell _ _ _ _).trans ((World.frozen?_setCell _ _ _ _).trans (HF.out o)), ((HB.out.setCell (Nat.le_refl _) _).setCell (Nat.le_refl _) _).drew⟩
      case measure => simp [intOf]; omega
    · have e : lb = k := by omega
      subst e
      go_wp2
      go_ret
      exact ⟨rfl, HV.out, HB.out⟩

set_option maxHeartbeats 1000000 in
theorem buildView_ids (A : Addr) (la ca : Nat) (Z : Nat → Int) (b : Option Addr) (lb cb : Nat) (S : Nat → ByteArray) (w : World) (ha : la ≤ 65536) (hb : lb ≤ 65536) (hlt : la ≤ lb) (HZ : Hid (IsInts w (some A) la Z)) (HS : Hid (IsStrs w b lb S)) :
    Calls Try.prog 7 #[.slice (some A) la ca, .slice b lb cb] w fun e w' => e = .returned (.slice (some ⟨w.heap.size, 0, none⟩) la la) ∧ IsView w' w.heap.size la ∧ Below w.heap.size w w' := by
  have hnil := fun (w : World) (a : Option Addr) (n c : Nat) => Lib.run_eql_slice_nil (P := Try.prog) w 23 3 a n c 0 0 Try.underlying23
  have hmk := make_view la ha
  go_enter Try.func7, Try.ntmps7
  go_wp2
  go_loopw [7] (fun i wr => ∃ k : Nat, k ≤ la ∧ i = .int .i64 k ∧ Hid (IsView wr w.heap.size la) ∧ Hid (∀ o, wr.frozen? ⟨w.heap.size, o, none⟩ = false) ∧ Hid (Below w.heap.size w wr)) (fun i _ => la - (intOf i).toNat)
  case atStart => exact ⟨0, Nat.zero_le _, rfl, made_view la w, made_free la w, (Below.refl _ _).alloc (Nat.le_refl _) _⟩
  case round =>
    obtain ⟨k, hk, rfl, HV, HF, HB⟩ := hrel
    by_cases hkl : k < la
    · obtain ⟨x, s, c0, c1⟩ := HV.out k hkl
      have f0 := HF.out (k * 2)
      have f1 := HF.out (k * 2 + 1)
      obtain ⟨ab, ao, ea, cz⟩ := HZ.out k (by omega)
      obtain rfl : A = ⟨ab, ao, none⟩ := Option.some.inj ea
      obtain ⟨bb, bo, rfl, cs, hsz⟩ := HS.out k (by omega)
      have dz := (HB.out.cell (World.block_lt_of_cell? w _ cz)).trans cz
      have ds := (HB.out.cell (World.block_lt_of_cell? w _ cs)).trans cs
      have i1 : (k : Int) < (la : Int) := by omega
      have i2 : (k : Int) < (lb : Int) := by omega
      clear ea cz cs hsz
      go_wp2
      go_region
      all_goals go_wp2
      go_roundw
      case rel => exact ⟨k + 1, by omega, by go_num, HV.out.set k _ _, fun o => (World.frozen?_setCell _ _ _ _).trans ((World.frozen?_setCell _ _ _ _).trans (HF.out o)), ((HB.out.setCell (Nat.le_refl _) _).setCell (Nat.le_refl _) _).drew⟩
      case measure => simp [intOf]; omega
    · have e : la = k := by omega
      subst e
      go_wp2
      go_ret
      exact ⟨rfl, HV.out, HB.out⟩

/-- A view, as zzBuildView makes it: nil, or a row of its own. -/
def ViewOk (w : World) (va : Option Addr) (vn : Nat) : Prop := (va = none ∧ vn = 0) ∨ ∃ g, va = some ⟨g, 0, none⟩ ∧ IsView w g vn

theorem ViewOk.later {w w1 : World} {va : Option Addr} {vn : Nat} (h : ViewOk w va vn) (hb : Below w.heap.size w w1) : ViewOk w1 va vn := by
  rcases h with h | ⟨g, e, h⟩
  · exact .inl h
  · exact .inr ⟨g, e, h.later hb⟩

theorem buildView_any (a : Option Addr) (la ca : Nat) (Z : Nat → Int) (b : Option Addr) (lb cb : Nat) (S : Nat → ByteArray) (w : World) (ha : la ≤ 65536) (hb : lb ≤ 65536) (hn : a = none → la = 0 ∧ ca = 0) (HZ : IsInts w a la Z) (HS : IsStrs w b lb S) :
    Calls Try.prog 7 #[.slice a la ca, .slice b lb cb] w fun e w' => ∃ va vn, e = .returned (.slice va vn vn) ∧ vn ≤ 65536 ∧ ViewOk w' va vn ∧ Below w.heap.size w w' := by
  cases a with
  | none =>
    obtain ⟨rfl, rfl⟩ := hn rfl
    exact (buildView_nil b lb cb w).mono fun e w' ⟨he, hw⟩ => ⟨none, 0, he, by omega, .inl ⟨rfl, rfl⟩, by rw [hw]; exact Below.refl _ _⟩
  | some A =>
    by_cases hlt : lb < la
    · exact (buildView_addrs A la ca Z b lb cb S w ha hb hlt HZ HS).mono fun e w' ⟨he, hv, hbl⟩ => ⟨_, _, he, hb, .inr ⟨_, rfl, hv⟩, hbl⟩
    · exact (buildView_ids A la ca Z b lb cb S w ha hb (by omega) HZ HS).mono fun e w' ⟨he, hv, hbl⟩ => ⟨_, _, he, ha, .inr ⟨_, rfl, hv⟩, hbl⟩

theorem sameView_any (va : Option Addr) (vn : Nat) (w : World) (hn : vn ≤ 65536) (h : ViewOk w va vn) :
    Calls Try.prog 11 #[.slice va vn vn, .slice va vn vn] w fun e w' => e = .returned (.bool true) ∧ ∃ m, w' = w.drewN m := by
  rcases h with ⟨rfl, rfl⟩ | ⟨g, rfl, h⟩
  · exact sameView_nil w
  · exact sameView_some g vn w hn h

end Go.Proofs.Qxb6612368a
