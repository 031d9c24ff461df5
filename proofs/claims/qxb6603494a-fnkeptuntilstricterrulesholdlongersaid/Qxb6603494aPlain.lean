/-
  THE PLAIN MATHEMATICS of keptUntil: no Go in sight.
-/
namespace Go.Proofs.Qxb6603494a.kept

/-- The last of the first k positions (counted from 1) that names lock j + 1; 0: none. -/
def lastTo (F : Nat → Int) : Nat → Nat → Int
  | 0, _ => 0
  | k + 1, j => if F k = (j : Int) + 1 then (k : Int) + 1 else lastTo F k j

theorem lastTo_bd (F : Nat → Int) (k j : Nat) : 0 ≤ lastTo F k j ∧ lastTo F k j ≤ k := by
  induction k with
  | zero => simp [lastTo]
  | succ k ih => unfold lastTo; split <;> omega

/-- It is 0, or a position that names j + 1. -/
theorem lastTo_is (F : Nat → Int) (k j : Nat) : lastTo F k j = 0 ∨ ∃ i, i < k ∧ lastTo F k j = (i : Int) + 1 ∧ F i = (j : Int) + 1 := by
  induction k with
  | zero => exact .inl rfl
  | succ k ih =>
    unfold lastTo
    by_cases h : F k = (j : Int) + 1
    · rw [if_pos h]; exact .inr ⟨k, by omega, rfl, h⟩
    · rw [if_neg h]
      rcases ih with ih | ⟨i, h1, h2, h3⟩
      · exact .inl ih
      · exact .inr ⟨i, by omega, h2, h3⟩

theorem lastTo_ge (F : Nat → Int) (k j i : Nat) (hi : i < k) (h : F i = (j : Int) + 1) : (i : Int) + 1 ≤ lastTo F k j := by
  induction k with
  | zero => omega
  | succ k ih =>
    unfold lastTo
    by_cases e : F k = (j : Int) + 1
    · rw [if_pos e]; omega
    · rw [if_neg e]
      refine ih ?_
      by_cases e2 : i = k
      · subst e2; exact absurd h e
      · omega

theorem lastTo_skip (F : Nat → Int) (k j : Nat) (h : F k = 0) : lastTo F (k + 1) j = lastTo F k j := by
  show (if F k = (j : Int) + 1 then (k : Int) + 1 else lastTo F k j) = _
  rw [if_neg (by omega)]

theorem lastTo_hit (F : Nat → Int) (k j h : Nat) (e : F k = (h : Int) + 1) : lastTo F (k + 1) j = if j = h then (k : Int) + 1 else lastTo F k j := by
  show (if F k = (j : Int) + 1 then (k : Int) + 1 else lastTo F k j) = _
  by_cases c : j = h
  · subst c; rw [if_pos e, if_pos rfl]
  · rw [if_neg (by omega), if_neg c]

/-- Position i names a lock that lies at or before it, and that names itself; or none. -/
def Names (F : Nat → Int) (i : Nat) : Prop := F i = 0 ∨ ∃ h : Nat, h ≤ i ∧ F i = h + 1 ∧ F h = h + 1

theorem lastTo_none (F : Nat → Int) (n k j : Nat) (hk : k ≤ n) (hF : ∀ i, i < n → Names F i) (h : F j = 0) : lastTo F k j = 0 := by
  rcases lastTo_is F k j with e | ⟨i, h1, _, h3⟩
  · exact e
  · rcases hF i (by omega) with e | ⟨g, _, e1, e2⟩
    · omega
    · have : g = j := by omega
      subst this; omega

/-- The position until which a transaction that ends at e (0: it is active) keeps hold. -/
def hold (n : Nat) (e : Int) : Int := if e = 0 then (n : Int) + 1 else e

/-- What 'letsGo' answers. -/
def letsB (r : Int) (x : Bool) : Bool := if r = 0 then true else if r = 1 then !x else false

/-- Where the lock that position i + 1 names is let go. -/
def nameVal (n : Nat) (T F L E : Nat → Int) (X : Nat → Bool) (r : Int) (i : Nat) : Int :=
  if letsB r (X i) = true then max (lastTo F n i) (L (T i).toNat) + 1 else hold n (E (T i).toNat)

/-- What keptUntil gives for position j. -/
def untilV (n : Nat) (T F L E : Nat → Int) (X : Nat → Bool) (r : Int) (j : Nat) : Int :=
  if F j = 0 then 0 else nameVal n T F L E X r (F j - 1).toNat

theorem untilV_name (n : Nat) (T F L E : Nat → Int) (X : Nat → Bool) (r : Int) (j h : Nat) (e : F j = (h : Int) + 1) : untilV n T F L E X r j = nameVal n T F L E X r h := by
  unfold untilV
  rw [if_neg (by omega), show (F j - 1).toNat = h from by omega]

end Go.Proofs.Qxb6603494a.kept
