/-
  THE WALKS of letsGo and holdsUntil.
-/
import Derived.Test.Qxb6603494aNewPlan
import Derived.Test.Qxb6603494aPlain
namespace Go.Proofs.Qxb6603494a.kept
open Go.RowKit

theorem lets (r : Int) (x : Bool) (w : World) : Calls Try.prog 11 #[.int .u8 r, .bool x] w fun e w' => e = .returned (.bool (letsB r x)) ∧ w' = w := by
  by_cases h0 : r = 0
  · subst h0
    go_enter Try.func11, Try.ntmps11
    go_wp2
    go_ret
    exact ⟨rfl, rfl⟩
  by_cases h1 : r = 1
  · subst h1
    go_enter Try.func11, Try.ntmps11
    go_wp2
    go_ret
    exact ⟨rfl, rfl⟩
  have e0 : (r == 0) = false := beq_eq_false_iff_ne.2 h0
  have e1 : (r == 1) = false := beq_eq_false_iff_ne.2 h1
  have HL : Hid (letsB r x = false) := by unfold letsB; rw [if_neg h0, if_neg h1]; exact rfl
  clear h0 h1
  go_enter Try.func11, Try.ntmps11
  go_wp2
  go_ret
  exact ⟨by rw [HL.out]; rfl, rfl⟩

set_option maxHeartbeats 1000000 in
theorem holds (s b0 o0 c0 n m tb ob i t : Nat) (e : Int) (w : World) (hn : n ≤ 1048576) (hi : i < n) (htm : t < m)
    (he : -2147483648 ≤ e ∧ e ≤ 2147483647)
    (q0 : w.cell? ⟨s, 0, none⟩ = some (.slice (some ⟨ob, 0, none⟩) n n)) (q1 : w.cell? ⟨s, 1, none⟩ = some (.slice (some ⟨tb, 0, none⟩) m m)) (q3 : w.cell? ⟨s, 3, none⟩ = some (.slice (some ⟨b0, o0, none⟩) n c0))
    (g0 : w.cell? ⟨b0, o0 + i, none⟩ = some (.int .i32 t)) (gt : w.cell? ⟨tb, t * 2 + 1, none⟩ = some (.int .i32 e)) :
    Calls Try.prog 12 #[.pointer (some ⟨s, 0, none⟩), .int .i64 ((i : Int) + 1)] w fun e' w' => e' = .returned (.int .i64 (hold n e)) ∧ ∃ nq, w' = w.drewN nq := by
  obtain ⟨he1, he2⟩ := he
  have hi0 : ((i : Int) + 1 == 0) = false := beq_eq_false_iff_ne.2 (by omega)
  have hi1 : (i : Int) < (n : Int) := by omega
  have ht1 : (t : Int) < (m : Int) := by omega
  by_cases h0 : e = 0
  · have HL : Hid (hold n e = (n : Int) + 1) := by unfold Hid hold; rw [if_pos h0]
    subst h0
    go_enter Try.func12, Try.ntmps12
    go_wp2
    go_quiet (fail)
    go_wp2
    go_ret
    exact ⟨by rw [HL.out]; rfl, _, rfl⟩
  · have HL : Hid (hold n e = e) := by unfold Hid hold; rw [if_neg h0]
    have e0 : (e != 0) = true := by rw [bne_iff_ne]; exact h0
    go_enter Try.func12, Try.ntmps12
    go_wp2
    go_quiet (fail)
    go_wp2
    go_ret
    exact ⟨by rw [HL.out]; rfl, _, rfl⟩
end Go.Proofs.Qxb6603494a.kept
