/-
  THE PROOF OF 'Rows.FnHandoffTokenAgreesWithFirstTokenSaid': the guide's frame for a law over slices, a slice of strings among them; the walk lies in Qxb6612368aHandoff.
-/
import Derived.Test.Qxb6612368aHandoff
import Derived.OpenShut
import Derived.ShutString
import Derived.ChangeOld
import Derived.SliceStrings
namespace Go.Proofs.Qxb6612368a.fnHandoffTokenAgreesWithFirstToken
open Go.ChangeShapes Go.WideShapes Go.ChangeAt Go.RowKit
open Go.ChangeMaps (open_string shut_string)
set_option linter.unusedVariables false

theorem own : ownKnob Try.prog.godebug = none := by kernel_rfl
theorem laidOut : laidOutB Try.prog = true := by kernel_rfl
theorem cells3 : Try.prog.cellsOf 3 = 1 := by kernel_rfl
theorem cells9 : Try.prog.cellsOf 9 = 1 := by kernel_rfl

/-- A cell that is there lies at a plain address. -/
theorem plain_of {w : World} {x : Addr} {k : Nat} {v : Value} (h : w.cell? (x.add k) = some v) : x.spot = none → w.cell? ⟨x.block, x.off + k, none⟩ = some v := by
  intro hs
  obtain ⟨b, o, sp⟩ := x
  simp only at hs
  subst hs
  rw [← add_plain]
  exact h

/-- A []int that came in, opened. -/
theorem open_ids {H : Type} {enc : TypeId × Value → H} {W : World} {fuel : Nat} {a : Option Addr} {len cap : Nat} {x : DataW H × List MemPlace}
    (h : DataW.trod enc Try.prog W 0 (fun _ => true) true fuel 23 [.slice a len cap] = some x) : len ≤ maxLen ∧ (a = none → len = 0 ∧ cap = 0) ∧ ∃ Z, IsInts W a len Z := by
  rcases open_ints Try.underlying23 Try.underlying3 cells3 h with ⟨hcs, _⟩ | ⟨y, l, c, zs, hcs, _, hl, hm, hz, _, hcell, hwz⟩
  · simp at hcs
    obtain ⟨rfl, rfl, rfl⟩ := hcs
    exact ⟨Nat.zero_le _, fun _ => ⟨rfl, rfl⟩, fun _ => 0, fun k hk => absurd hk (by omega)⟩
  · simp at hcs
    obtain ⟨rfl, rfl, rfl⟩ := hcs
    have hz' : zs.length = cap := by simpa using hz
    refine ⟨Nat.le_trans hl hm, fun h => (by cases h), fun k => zs.getD k 0, fun k hk => ?_⟩
    obtain ⟨yb, yo, ys⟩ := y
    have h0 := hcell 0 (by omega)
    have hs : ys = none := by simpa [Addr.add] using World.cell?_spot h0
    subst hs
    exact ⟨yb, yo, rfl, plain_of (hcell k (by omega)) rfl⟩

/-- A []string that came in, opened. -/
theorem open_addrs {H : Type} {enc : TypeId × Value → H} {W : World} {fuel : Nat} {a : Option Addr} {len cap : Nat} {x : DataW H × List MemPlace}
    (h : DataW.trod enc Try.prog W 0 (fun _ => true) true fuel 24 [.slice a len cap] = some x) : len ≤ maxLen ∧ ∃ S, IsStrs W a len S := by
  rcases open_strings Try.underlying24 Try.underlying9 cells9 h with ⟨hcs, _⟩ | ⟨y, l, c, ss, hcs, _, hl, hm, hz, _, hcell, hws⟩
  · simp at hcs
    obtain ⟨rfl, rfl, rfl⟩ := hcs
    exact ⟨Nat.zero_le _, fun _ => ByteArray.empty, fun k hk => absurd hk (by omega)⟩
  · simp at hcs
    obtain ⟨rfl, rfl, rfl⟩ := hcs
    have hz' : ss.length = cap := by simpa using hz
    refine ⟨Nat.le_trans hl hm, fun k => ss.getD k ByteArray.empty, fun k hk => ?_⟩
    obtain ⟨yb, yo, ys⟩ := y
    have h0 := hcell 0 (by omega)
    have hs : ys = none := by simpa [Addr.add] using World.cell?_spot h0
    subst hs
    refine ⟨yb, yo, rfl, plain_of (hcell k (by omega)) rfl, ?_⟩
    have hk' : k < ss.length := by omega
    have e : ss.getD k ByteArray.empty = ss[k] := by simp [List.getD, hk']
    show (ss.getD k ByteArray.empty).size ≤ maxLen
    rw [e]
    exact hws _ (List.getElem_mem hk')

theorem walk (a0 a1 a2 : Int) (a3 : Option Addr) (len3 cap3 : Nat) (Z : Nat → Int) (a4 : Option Addr) (len4 cap4 : Nat) (S : Nat → ByteArray) (w : World) (l3 : len3 ≤ maxLen) (l4 : len4 ≤ maxLen) (n3 : a3 = none → len3 = 0 ∧ cap3 = 0) (w3 : IsInts w a3 len3 Z) (w4 : IsStrs w a4 len4 S) :
    Calls Try.prog 3 #[.int .i64 a0, .int .u64 a1, .int .u64 a2, .slice a3 len3 cap3, .slice a4 len4 cap4] w fun e w' => e = .returned (.bool true) ∧ Below w.heap.size w w' := by
  by_cases h : 65536 < len3 ∨ 65536 < len4
  · exact hand_long a0 a1 a2 a3 len3 cap3 a4 len4 cap4 S w l3 l4 w4 h
  · exact hand_main a0 a1 a2 a3 len3 cap3 Z a4 len4 cap4 S w (by omega) (by omega) n3 w3 w4

/-! ### THE ROW's STEP -/
set_option maxRecDepth 100000 in
theorem lifted (os : Os) (started : os.Started) (H : Type) (enc : TypeId × Value → H) :
    ReturnsInHanded {} Try.checked os 3 .any (Rows.fnHandoffTokenAgreesWithFirstTokenSpec.pre6 enc Try.prog Try.f3 Rows.fnHandoffTokenAgreesWithFirstTokenRow.domain false) (Rows.fnHandoffTokenAgreesWithFirstTokenSpec.post enc Try.prog Try.f3 false true false false) := by
  refine returnsInHanded_of_change (C := Try.checked) own started (by kernel_rfl) Try.func3
    (ChangeSpec.witness6 (enc := enc) (C := Try.checked) false ⟨#[], #[.int .i64 0, .int .u64 0, .int .u64 0, .slice none 0 0, .slice none 0 0], []⟩ 8 (by kernel_rfl) (by kernel_rfl) (by kernel_rfl) (by kernel_rfl)) ?_
  intro W base args ds gs before hval0 hW hcnd _
  have hval : ∀ (j : Nat) t v, Try.f3.params[j]? = some t → args[j]? = some v → Value.okWide Try.prog W .any base t v := hval0
  have hW' := hW
  obtain ⟨p, q, hA0, hV, rfl, hfz, hnd⟩ := hW
  have hA : DataW.TrodAll enc Try.prog W 0 (fun _ => true) true Try.f3.params.toList args.toList ds p := hA0
  rw [Try.params3] at hA hval
  obtain ⟨v0, vs0, d0, ds0, p0, q0, hargs, rfl, rfl, h0, r0⟩ := trodAll_cons hA
  obtain ⟨v1, vs1, d1, ds1, p1, q1, rfl, rfl, rfl, h1, r1⟩ := trodAll_cons r0
  obtain ⟨v2, vs2, d2, ds2, p2, q2, rfl, rfl, rfl, h2, r2⟩ := trodAll_cons r1
  obtain ⟨v3, vs3, d3, ds3, p3, q3, rfl, rfl, rfl, h3, r3⟩ := trodAll_cons r2
  obtain ⟨v4, vs4, d4, ds4, p4, q4, rfl, rfl, rfl, h4, r4⟩ := trodAll_cons r3
  obtain ⟨rfl, rfl, rfl⟩ := trodAll_nil r4
  obtain rfl : args = #[v0, v1, v2, v3, v4] := by cases args; simp_all
  obtain ⟨rfl, rfl⟩ := trodVars_none hV
  obtain ⟨a0, rfl, rfl, rfl, w0⟩ := open_int Try.underlying3 (hval 0 3 v0 rfl rfl) h0
  obtain ⟨a1, rfl, rfl, rfl, w1⟩ := open_int Try.underlying22 (hval 1 22 v1 rfl rfl) h1
  obtain ⟨a2, rfl, rfl, rfl, w2⟩ := open_int Try.underlying22 (hval 2 22 v2 rfl rfl) h2
  obtain ⟨a3, len3, cap3, rfl⟩ := okWide_slice Try.underlying23 (hval 3 23 v3 rfl rfl)
  obtain ⟨a4, len4, cap4, rfl⟩ := okWide_slice Try.underlying24 (hval 4 24 v4 rfl rfl)
  have k3 := h3
  have k4 := h4
  have lt3 : ∀ x ∈ p3, x.block < W.heap.size := by obtain ⟨m, hm⟩ := k3; exact DataW.trod_lt m _ _ _ hm
  have lt4 : ∀ x ∈ p4, x.block < W.heap.size := by obtain ⟨m, hm⟩ := k4; exact DataW.trod_lt m _ _ _ hm
  obtain ⟨l3, n3, Z, w3⟩ : len3 ≤ maxLen ∧ (a3 = none → len3 = 0 ∧ cap3 = 0) ∧ ∃ Z, IsInts W a3 len3 Z := by
    obtain ⟨fuel, hf⟩ := h3
    exact open_ids (by simpa [Value.cells] using hf)
  obtain ⟨l4, S, w4⟩ : len4 ≤ maxLen ∧ ∃ S, IsStrs W a4 len4 S := by
    obtain ⟨fuel, hf⟩ := h4
    exact open_addrs (by simpa [Value.cells] using hf)
  clear hA0 hval0
  refine (walk a0 a1 a2 a3 len3 cap3 Z a4 len4 cap4 S W l3 l4 n3 w3 w4).mono fun e W' ⟨he, bel⟩ => ?_
  subst he
  exact ⟨_, rfl, _, _, _, [], _, [], hW', trodAll_mk1 (shut_bool Try.underlying4 _), (trodAll_cons_mk (shut_int Try.underlying3 w0) (trodAll_cons_mk (shut_int Try.underlying22 w1) (trodAll_cons_mk (shut_int Try.underlying22 w2) (trodAll_cons_mk (Below.trod laidOut (by kernel_rfl) (of_decide_eq_true (by kernel_rfl)) k3 bel lt3) (trodAll_cons_mk (Below.trod laidOut (by kernel_rfl) (of_decide_eq_true (by kernel_rfl)) k4 bel lt4) trodAll_mk0))))), rfl, bel.frame _, fun h => by cases h⟩

theorem over : Rows.fnHandoffTokenAgreesWithFirstTokenRow.holds Try.pinned (OpenSpec.ofChange Rows.fnHandoffTokenAgreesWithFirstTokenSpec) :=
  OpenClaim.holds_of_wide 3 Try.f3 rfl rfl rfl rfl rfl rfl rfl ⟨rfl, rfl, rfl, rfl, rfl⟩ rfl rfl rfl rfl rfl (by kernel_rfl) Try.func3 (by kernel_rfl)
    (of_decide_eq_true (by kernel_rfl)) (by unfold Func.isWrapper; first | (rw [if_pos (by decide +kernel)]; kernel_rfl) | (rw [if_neg (by decide +kernel)]; exact ⟨rfl, rfl⟩))
    (fun os started H enc _ => lifted os started H enc)

/-- THE STATEMENT. -/
theorem proved : Rows.FnHandoffTokenAgreesWithFirstTokenSaid := over
#print axioms proved
end Go.Proofs.Qxb6612368a.fnHandoffTokenAgreesWithFirstToken
