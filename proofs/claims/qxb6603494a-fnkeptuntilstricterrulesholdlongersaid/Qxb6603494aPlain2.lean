/-
  THE PLAIN LAW: what keptUntil gives under the three rules, position by position. No Go in sight.
-/
import Derived.Test.Qxb6603494aPlain
namespace Go.Proofs.Qxb6603494a.kept

/-- The access at i is of the transaction that names its lock. -/
def SameTxn (T F : Nat → Int) (i : Nat) : Prop := ∀ h : Nat, F i = h + 1 → T i = T h
/-- A transaction's end lies behind its lock point, within the plan. -/
def EndAt (n : Nat) (E L : Nat → Int) (t : Nat) : Prop := E t = 0 ∨ (1 ≤ E t ∧ E t ≤ n ∧ L t < E t)
/-- An access lies ahead of its transaction's end. -/
def Ahead (T F E : Nat → Int) (i : Nat) : Prop := ∀ h : Nat, F i = h + 1 → ∀ t : Nat, T i = t → E t = 0 ∨ (i : Int) + 1 < E t

theorem lets_0 (x : Bool) : letsB 0 x = true := by simp [letsB]
theorem lets_1 (x : Bool) : letsB 1 x = !x := by simp [letsB]
theorem lets_2 (x : Bool) : letsB 2 x = false := by simp [letsB]

theorem law_at (n m : Nat) (T F L E : Nat → Int) (X : Nat → Bool) (hT : ∀ i, i < n → 0 ≤ T i ∧ T i < m) (hF : ∀ i, i < n → Names F i) (hL : ∀ t, t < m → 0 ≤ L t ∧ L t ≤ n)
    (hS : ∀ i, i < n → SameTxn T F i) (hE : ∀ t, t < m → EndAt n E L t) (hA : ∀ i, i < n → Ahead T F E i) (i h t : Nat) (hi : i < n) (e1 : F i = h + 1) (ht : T i = t) :
    ∃ v0 v1, untilV n T F L E X 0 i = v0 ∧ untilV n T F L E X 0 h = v0 ∧ untilV n T F L E X 1 i = v1 ∧ untilV n T F L E X 1 h = v1 ∧ untilV n T F L E X 2 i = hold n (E t) ∧
      (i : Int) + 1 < v0 ∧ v0 ≤ v1 ∧ v1 ≤ hold n (E t) := by
  have e2 : F h = h + 1 ∧ h ≤ i := by
    rcases hF i hi with e | ⟨g, h1, h2, h3⟩
    · omega
    · have : g = h := by omega
      subst this; exact ⟨h3, h1⟩
  obtain ⟨e2, hle⟩ := e2
  have hth : T h = t := by rw [← hS i hi h e1]; exact ht
  obtain ⟨t1, t2⟩ := hT i hi
  have htm : t < m := by omega
  obtain ⟨l1, l2⟩ := hL t htm
  have hge := lastTo_ge F n h i hi e1
  obtain ⟨b1, b2⟩ := lastTo_bd F n h
  have hmx : max (lastTo F n h) (L t) + 1 ≤ hold n (E t) := by
    unfold hold
    by_cases z : E t = 0
    · rw [if_pos z]; omega
    · rw [if_neg z]
      rcases hE t htm with z' | ⟨_, _, h3⟩
      · omega
      · rcases lastTo_is F n h with y | ⟨j, j1, j2, j3⟩
        · omega
        · have hTj : T j = t := by rw [hS j j1 h j3]; exact hth
          rcases hA j j1 h j3 t hTj with z' | h4
          · omega
          · omega
  have n0 : nameVal n T F L E X 0 h = max (lastTo F n h) (L t) + 1 := by
    unfold nameVal; rw [if_pos (lets_0 _), hth, Int.toNat_natCast]
  have n2 : nameVal n T F L E X 2 h = hold n (E t) := by
    unfold nameVal; rw [if_neg (by rw [lets_2]; exact Bool.false_ne_true), hth, Int.toNat_natCast]
  have n1 : max (lastTo F n h) (L t) + 1 ≤ nameVal n T F L E X 1 h ∧ nameVal n T F L E X 1 h ≤ hold n (E t) := by
    unfold nameVal; rw [hth, Int.toNat_natCast]
    split
    · omega
    · omega
  refine ⟨_, _, untilV_name _ _ _ _ _ _ _ _ h e1, untilV_name _ _ _ _ _ _ _ _ h e2, untilV_name _ _ _ _ _ _ _ _ h e1, untilV_name _ _ _ _ _ _ _ _ h e2, ?_, ?_, ?_, ?_⟩
  · rw [untilV_name _ _ _ _ _ _ _ _ h e1, n2]
  · rw [n0]; omega
  · rw [n0]; exact n1.1
  · exact n1.2

theorem law_zero (n : Nat) (T F L E : Nat → Int) (X : Nat → Bool) (r : Int) (i : Nat) (h : F i = 0) : untilV n T F L E X r i = 0 := by
  unfold untilV; rw [if_pos h]

end Go.Proofs.Qxb6603494a.kept
