/-
  THE WALKS over sharesValues and ZZsharesValues.
-/
import Derived.Test.Qxb6609437aWalks
namespace Go.Proofs.Qxb6609437a
open Go.RowKit

theorem sv_a0 (x y : Nat) (aa : Option Addr) (ca : Nat) (w : World)
    (h0 : w.cell? ⟨x, 4, none⟩ = some (.slice aa 0 ca)) :
    Calls Try.prog 7 #[.pointer (some ⟨x, 0, none⟩), .pointer (some ⟨y, 0, none⟩)] w fun e w' => e = .returned (.bool false) ∧ ∃ n, w' = w.drewN n := by
  go_enter Try.func7, Try.ntmps7
  go_wp2
  go_quiet (fail)
  go_wp2
  go_ret
  exact ⟨rfl, _, rfl⟩

theorem sv_b0 (x y : Nat) (aa ab : Option Addr) (la ca cb : Nat) (w : World) (hl : 0 < la)
    (h0 : w.cell? ⟨x, 4, none⟩ = some (.slice aa la ca)) (h1 : w.cell? ⟨y, 4, none⟩ = some (.slice ab 0 cb)) :
    Calls Try.prog 7 #[.pointer (some ⟨x, 0, none⟩), .pointer (some ⟨y, 0, none⟩)] w fun e w' => e = .returned (.bool false) ∧ ∃ n, w' = w.drewN n := by
  have hl' : (0 : Int) < (la : Int) := by omega
  go_enter Try.func7, Try.ntmps7
  go_wp2
  go_quiet (fail)
  go_wp2
  go_ret
  exact ⟨rfl, _, rfl⟩

theorem info33' : ∃ j, Try.prog.info? 33 = some j ∧ j.size ≠ 0 := by
  obtain ⟨j, hj, hs⟩ := Option.map_eq_some_iff.1 size33
  exact ⟨j, hj, by simp [hs]⟩

theorem sv_same (x y : Nat) (ba : Nat) (la ca lb cb : Nat) (w : World) (hl : 0 < la) (hm : 0 < lb)
    (h0 : w.cell? ⟨x, 4, none⟩ = some (.slice (some ⟨ba, 0, none⟩) la ca)) (h1 : w.cell? ⟨y, 4, none⟩ = some (.slice (some ⟨ba, 0, none⟩) lb cb)) :
    Calls Try.prog 7 #[.pointer (some ⟨x, 0, none⟩), .pointer (some ⟨y, 0, none⟩)] w fun e w' => e = .returned (.bool true) ∧ ∃ n, w' = w.drewN n := by
  have hl' : (0 : Int) < (la : Int) := by omega
  have hm' : (0 : Int) < (lb : Int) := by omega
  obtain ⟨j, hj, _⟩ := info33'
  have he := fun (w : World) => run_eql_ptr_same (P := Try.prog) w (tp := 32) (te := 33) ⟨ba, 0, none⟩ Try.underlying32 hj
  clear hj
  go_enter Try.func7, Try.ntmps7
  go_wp2
  go_quiet (fail)
  go_wp2
  go_ret
  exact ⟨rfl, _, rfl⟩

theorem sv_diff (x y : Nat) (ba bb : Nat) (la ca lb cb : Nat) (w : World) (hl : 0 < la) (hm : 0 < lb) (hne : ba ≠ bb)
    (ra : ∃ cs, w.heap[ba]? = some (.cells cs 33 (0, 0))) (rb : ∃ cs, w.heap[bb]? = some (.cells cs 33 (0, 0)))
    (h0 : w.cell? ⟨x, 4, none⟩ = some (.slice (some ⟨ba, 0, none⟩) la ca)) (h1 : w.cell? ⟨y, 4, none⟩ = some (.slice (some ⟨bb, 0, none⟩) lb cb)) :
    Calls Try.prog 7 #[.pointer (some ⟨x, 0, none⟩), .pointer (some ⟨y, 0, none⟩)] w fun e w' => e = .returned (.bool false) ∧ ∃ n, w' = w.drewN n := by
  have hl' : (0 : Int) < (la : Int) := by omega
  have hm' : (0 : Int) < (lb : Int) := by omega
  obtain ⟨j, hj, hs⟩ := info33'
  obtain ⟨c1, ra⟩ := ra
  obtain ⟨c2, rb⟩ := rb
  have he := fun (n : Nat) => run_eql_ptr_other (P := Try.prog) (w.drewN n) (tp := 32) (te := 33) (a := ⟨ba, 0, none⟩) (b := ⟨bb, 0, none⟩) Try.underlying32 hj hs (fun h => hne (congrArg Addr.block h)) (by simpa using ra) (by simpa using rb)
  clear hj hs ra rb
  go_enter Try.func7, Try.ntmps7
  go_wp2
  go_quiet (fail)
  go_wp2
  go_ret
  exact ⟨rfl, _, rfl⟩

/-- ZZsharesValues hands on what sharesValues says. -/
theorem zz_of (x y : Nat) (b : Bool) (w : World)
    (h : Hid (Calls Try.prog 7 #[.pointer (some ⟨x, 0, none⟩), .pointer (some ⟨y, 0, none⟩)] w fun e w' => e = .returned (.bool b) ∧ ∃ n, w' = w.drewN n)) :
    Calls Try.prog 6 #[.pointer (some ⟨x, 0, none⟩), .pointer (some ⟨y, 0, none⟩)] w fun e w' => e = .returned (.bool b) ∧ ∃ n, w' = w.drewN n := by
  go_enter Try.func6, Try.ntmps6
  go_wp2_with (go_at_call 7; refine h.out.mono ?_; rintro e w' ⟨rfl, n, rfl⟩)
  go_ret
  exact ⟨rfl, _, rfl⟩

/-- What sharesValues answers: both have an element, and they begin at one address. -/
def shB (aa : Option Addr) (la : Nat) (ab : Option Addr) (lb : Nat) : Bool := decide (0 < la) && decide (0 < lb) && decide (aa = ab)

theorem zz_any (x y : Nat) (aa : Option Addr) (la ca : Nat) (ab : Option Addr) (lb cb : Nat) (w : World)
    (ra : 0 < la → ∃ b, aa = some ⟨b, 0, none⟩ ∧ ∃ cs, w.heap[b]? = some (.cells cs 33 (0, 0))) (rb : 0 < lb → ∃ b, ab = some ⟨b, 0, none⟩ ∧ ∃ cs, w.heap[b]? = some (.cells cs 33 (0, 0)))
    (h0 : w.cell? ⟨x, 4, none⟩ = some (.slice aa la ca)) (h1 : w.cell? ⟨y, 4, none⟩ = some (.slice ab lb cb)) :
    Calls Try.prog 6 #[.pointer (some ⟨x, 0, none⟩), .pointer (some ⟨y, 0, none⟩)] w fun e w' => e = .returned (.bool (shB aa la ab lb)) ∧ ∃ n, w' = w.drewN n := by
  refine zz_of x y _ w ?_
  show Calls _ _ _ _ _
  unfold shB
  by_cases hla : 0 < la
  · by_cases hlb : 0 < lb
    · obtain ⟨b1, rfl, r1⟩ := ra hla
      obtain ⟨b2, rfl, r2⟩ := rb hlb
      by_cases hb : b1 = b2
      · subst hb
        simp only [hla, hlb, decide_true, Bool.true_and]
        exact sv_same x y b1 la ca lb cb w hla hlb h0 h1
      · have e : decide (some (⟨b1, 0, none⟩ : Addr) = some ⟨b2, 0, none⟩) = false := decide_eq_false fun h => hb (congrArg (fun o : Option Addr => o.elim 0 Addr.block) h)
        simp only [hla, hlb, e, decide_true, Bool.true_and]
        exact sv_diff x y b1 b2 la ca lb cb w hla hlb hb r1 r2 h0 h1
    · obtain rfl : lb = 0 := by omega
      simp only [hla, decide_true, Nat.lt_irrefl, decide_false, Bool.and_false, Bool.false_and]
      exact sv_b0 x y aa ab la ca cb w hla h0 h1
  · obtain rfl : la = 0 := by omega
    simp only [Nat.lt_irrefl, decide_false, Bool.false_and]
    exact sv_a0 x y aa ca w h0

end Go.Proofs.Qxb6609437a
