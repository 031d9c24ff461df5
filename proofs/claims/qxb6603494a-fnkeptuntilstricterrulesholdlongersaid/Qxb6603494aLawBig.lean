/-
  THE WALK of FnKeptUntilStricterRulesHoldLonger where a length is beyond its bound: it returns true at once.
-/
import Derived.Test.Qxb6603494aClone
import Derived.Test.Qxb6603494aShape
namespace Go.Proofs.Qxb6603494a.kept
open Go.RowKit

/-- WHAT THE LAW ANSWERS. -/
def LawSaid (w : World) (e : Ending) (w' : World) : Prop := e = .returned (.bool true) ∧ Below w.heap.size w w'

set_option maxRecDepth 100000 in
set_option maxHeartbeats 4000000 in
theorem law_big (a0 a1 a2 a3 a4 : Option Addr) (n c0 m c1 n2 c2 n3 c3 m4 c4 : Nat) (w : World) (hbig : ¬ ((n : Int) ≤ 65536 ∧ (m : Int) ≤ 65536 ∧ (n2 : Int) ≤ 65536 ∧ (n3 : Int) ≤ 65536 ∧ (m4 : Int) ≤ 65536 ∧ 4 * ((n : Int) + m + n2 + m4) + n3 ≤ 1048576)) :
    Calls Try.prog 3 #[.slice a0 n c0, .slice a1 m c1, .slice a2 n2 c2, .slice a3 n3 c3, .slice a4 m4 c4] w (LawSaid w) := by
  have HB : Hid _ := hbig
  clear hbig
  by_cases t0 : 65536 < (n : Int)
  · go_enter Try.func3, Try.ntmps3
    go_wp2_with fail
    refine (bytes a0 a1 a2 a3 a4 n c0 m c1 n2 c2 n3 c3 m4 c4 w).mono ?_
    rintro e w' ⟨bo, rfl, rfl⟩
    cases bo
    all_goals
      go_wp2
      go_ret
      exact ⟨rfl, Below.refl _ _⟩
  by_cases t1 : 65536 < (m : Int)
  · go_enter Try.func3, Try.ntmps3
    go_wp2_with fail
    refine (bytes a0 a1 a2 a3 a4 n c0 m c1 n2 c2 n3 c3 m4 c4 w).mono ?_
    rintro e w' ⟨bo, rfl, rfl⟩
    cases bo
    all_goals
      go_wp2
      go_ret
      exact ⟨rfl, Below.refl _ _⟩
  by_cases t2 : 65536 < (n2 : Int)
  · go_enter Try.func3, Try.ntmps3
    go_wp2_with fail
    refine (bytes a0 a1 a2 a3 a4 n c0 m c1 n2 c2 n3 c3 m4 c4 w).mono ?_
    rintro e w' ⟨bo, rfl, rfl⟩
    cases bo
    all_goals
      go_wp2
      go_ret
      exact ⟨rfl, Below.refl _ _⟩
  by_cases t3 : 65536 < (n3 : Int)
  · go_enter Try.func3, Try.ntmps3
    go_wp2_with fail
    refine (bytes a0 a1 a2 a3 a4 n c0 m c1 n2 c2 n3 c3 m4 c4 w).mono ?_
    rintro e w' ⟨bo, rfl, rfl⟩
    cases bo
    all_goals
      go_wp2
      go_ret
      exact ⟨rfl, Below.refl _ _⟩
  by_cases t4 : 65536 < (m4 : Int)
  · go_enter Try.func3, Try.ntmps3
    go_wp2_with fail
    refine (bytes a0 a1 a2 a3 a4 n c0 m c1 n2 c2 n3 c3 m4 c4 w).mono ?_
    rintro e w' ⟨bo, rfl, rfl⟩
    cases bo
    all_goals
      go_wp2
      go_ret
      exact ⟨rfl, Below.refl _ _⟩
  by_cases t5 : 1048576 < 4 * ((n : Int) + m + n2 + m4) + n3
  · go_enter Try.func3, Try.ntmps3
    go_wp2_with fail
    refine (bytes a0 a1 a2 a3 a4 n c0 m c1 n2 c2 n3 c3 m4 c4 w).mono ?_
    rintro e w' ⟨bo, rfl, rfl⟩
    cases bo
    all_goals
      go_wp2
      go_ret
      exact ⟨rfl, Below.refl _ _⟩
  exact absurd HB.out (by intro h; apply h; omega)
end Go.Proofs.Qxb6603494a.kept
