/-
  THE PLAIN MATHEMATICS of writeNumber: how a number is spelt in bytes. No Go in sight.
-/
namespace Go.Proofs.Qxb6604476a.num

/-- The eight bytes of v, the least first. -/
def eight (v : Int) : List Int := [v % 256, v / 256 % 256, v / 65536 % 256, v / 16777216 % 256, v / 4294967296 % 256, v / 1099511627776 % 256, v / 281474976710656 % 256, v / 72057594037927936 % 256]

/-- The bytes of a number: one where it is below 255, else 255 and its eight bytes. -/
def enc (v : Int) : List Int := if v < 255 then [v] else 255 :: eight v

theorem enc_short {v : Int} (h : v < 255) : enc v = [v] := if_pos h
theorem enc_long {v : Int} (h : ¬ v < 255) : enc v = 255 :: eight v := if_neg h
theorem enc_len (v : Int) : 1 ≤ (enc v).length ∧ (enc v).length ≤ 9 := by
  unfold enc
  split <;> simp [eight]

/-- The first k numbers, spelt one behind another. -/
def encs (f : Nat → Int) : Nat → List Int
  | 0 => []
  | k + 1 => encs f k ++ enc (f k)

theorem encs_len (f : Nat → Int) (k : Nat) : (encs f k).length ≤ 9 * k := by
  induction k with
  | zero => simp [encs]
  | succ k ih =>
    have := (enc_len (f k)).2
    simp only [encs, List.length_append]
    omega

theorem encs_at (f : Nat → Int) (m k j : Nat) (hk : k < m) (hj : j < (enc (f k)).length) : (encs f m)[(encs f k).length + j]? = (enc (f k))[j]? := by
  induction m with
  | zero => omega
  | succ m ih =>
    by_cases e : k = m
    · subst e
      show (encs f k ++ enc (f k))[(encs f k).length + j]? = _
      rw [List.getElem?_append_right (by omega)]
      congr 1
      omega
    · have h := ih (by omega)
      have hl : (encs f k).length + j < (encs f m).length := by
        rw [List.getElem?_eq_getElem hj] at h
        exact (List.getElem?_eq_some_iff.1 h).1
      show (encs f m ++ enc (f m))[(encs f k).length + j]? = _
      rw [List.getElem?_append_left hl]
      exact h

theorem encs_mono (f : Nat → Int) (m k : Nat) (hk : k < m) : (encs f k).length + (enc (f k)).length ≤ (encs f m).length := by
  have h1 := (enc_len (f k)).1
  have h := encs_at f m k ((enc (f k)).length - 1) hk (by omega)
  have h2 : (enc (f k))[(enc (f k)).length - 1]? = some ((enc (f k))[(enc (f k)).length - 1]'(by omega)) := List.getElem?_eq_getElem (by omega)
  rw [h2] at h
  have := (List.getElem?_eq_some_iff.1 h).1
  omega

end Go.Proofs.Qxb6604476a.num
