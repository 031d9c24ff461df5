/-
  THE WALK of lawPlanShape.
-/
import Derived.Test.Qxb6603494aBase
namespace Go.Proofs.Qxb6603494a.kept
open Go.RowKit

/-- Every number fits an int32. -/
def I32 (f : Nat → Int) : Prop := ∀ i, -2147483648 ≤ f i ∧ f i ≤ 2147483647

/-- WHAT lawPlanShape's FIRST LOOP LOOKS AT, at position i. -/
def ShapeAt (m : Nat) (T F : Nat → Int) (i : Nat) : Prop :=
  0 ≤ T i ∧ T i < m ∧ (F i = 0 ∨ ∃ h : Nat, h ≤ i ∧ F i = h + 1 ∧ F h = h + 1)

theorem upto {p : Nat → Prop} {k : Nat} (h : ∀ j, j < k → p j) (hk : p k) : ∀ j, j < k + 1 → p j := by
  intro j hj
  by_cases e : j = k
  · subst e; exact hk
  · exact h j (by omega)

theorem at_of {k : IntKind} {w : World} {a : Option Addr} {n : Nat} {f : Nat → Int} (hs : Sl k w a n f) (i : Nat) (hi : i < n) :
    ∃ b off, a = some ⟨b, off, none⟩ ∧ b < w.heap.size ∧ Hid (∀ i, i < n → w.cell? ⟨b, off + i, none⟩ = some (.int k (f i))) := by
  rcases hs with h | h
  · omega
  · exact h

/-- WHAT lawPlanShape ANSWERS. -/
def ShapeSaid (n m n2 n3 m4 : Nat) (T F L : Nat → Int) (w : World) (e : Ending) (w' : World) : Prop :=
  ∃ bo, e = .returned (.bool bo) ∧ w' = w ∧
      (bo = true → n = n2 ∧ n = n3 ∧ m = m4 ∧ (∀ i, i < n → ShapeAt m T F i) ∧ ∀ t, t < m → 0 ≤ L t ∧ L t ≤ n)

set_option maxHeartbeats 2000000 in
theorem shape (a0 a1 a2 a3 a4 : Option Addr) (n c0 m c1 n2 c2 n3 c3 m4 c4 : Nat) (T F L : Nat → Int) (w : World)
    (hn : n ≤ 1048576) (hm : m ≤ 1048576) (hT : I32 T) (hF : I32 F) (hL : I32 L) (s0 : Sl .i32 w a0 n T) (s2 : Sl .i32 w a2 n2 F) (s4 : Sl .i32 w a4 m4 L) :
    Calls Try.prog 5 #[.slice a0 n c0, .slice a1 m c1, .slice a2 n2 c2, .slice a3 n3 c3, .slice a4 m4 c4] w (ShapeSaid n m n2 n3 m4 T F L w) := by
  by_cases e2 : n = n2
  case neg =>
    have h2 : ((n2 : Int) != (n : Int)) = true := by rw [bne_iff_ne]; omega
    go_enter Try.func5, Try.ntmps5
    go_wp2
    go_ret
    exact ⟨false, rfl, rfl, fun h => by cases h⟩
  subst e2
  by_cases e3 : n = n3
  case neg =>
    have h2 : ((n3 : Int) != (n : Int)) = true := by rw [bne_iff_ne]; omega
    go_enter Try.func5, Try.ntmps5
    go_wp2
    go_ret
    exact ⟨false, rfl, rfl, fun h => by cases h⟩
  subst e3
  by_cases e4 : m = m4
  case neg =>
    have h2 : ((m4 : Int) != (m : Int)) = true := by rw [bne_iff_ne]; omega
    go_enter Try.func5, Try.ntmps5
    go_wp2
    go_ret
    exact ⟨false, rfl, rfl, fun h => by cases h⟩
  subst e4
  go_enter Try.func5, Try.ntmps5
  go_wp2
  go_loop [12] (fun i => ∃ k : Nat, k ≤ n ∧ i = .int .i64 k ∧ ∀ j, j < k → ShapeAt m T F j) (fun i => n - (intOf i).toNat)
  case atStart => exact ⟨0, Nat.zero_le _, rfl, fun j hj => by omega⟩
  case round =>
    obtain ⟨k, hk, rfl, hall⟩ := hrel
    by_cases hlt : k < n
    · obtain ⟨b0, o0, rfl, hb0, hc0⟩ := at_of s0 k hlt
      obtain ⟨b2, o2, rfl, hb2, hc2⟩ := at_of s2 k hlt
      have g0 := hc0.out k hlt
      have g2 := hc2.out k hlt
      obtain ⟨t1, t2⟩ := hT k
      obtain ⟨f1, f2⟩ := hF k
      by_cases d1 : T k < 0
      · go_wp2
        go_ret
        exact ⟨false, rfl, rfl, fun h => by cases h⟩
      by_cases d2 : (m : Int) ≤ T k
      · go_wp2
        go_ret
        exact ⟨false, rfl, rfl, fun h => by cases h⟩
      by_cases d3 : F k = 0
      · have HA : Hid (ShapeAt m T F k) := ⟨by omega, by omega, .inl d3⟩
        have d3' : (F k != 0) = false := by simp [d3]
        clear d3
        go_wp2
        go_round
        case rel => exact ⟨k + 1, by omega, by go_num, upto hall HA.out⟩
        case measure => simp [intOf]; omega
      have d3' : (F k != 0) = true := by simp [d3]
      by_cases d4 : F k < 1
      · go_wp2
        go_ret
        exact ⟨false, rfl, rfl, fun h => by cases h⟩
      by_cases d5 : (k : Int) + 1 < F k
      · go_wp2
        go_ret
        exact ⟨false, rfl, rfl, fun h => by cases h⟩
      obtain ⟨h, hh⟩ : ∃ h : Nat, F k = h + 1 := ⟨(F k - 1).toNat, by omega⟩
      have hhk : h ≤ k := by omega
      have g3 := hc2.out h (by omega)
      rw [hh] at g2
      have e1 : ((h : Int) + 1 != 0) = true := by rw [bne_iff_ne]; omega
      have e2 : decide ((h : Int) + 1 < 1) = false := decide_eq_false (by omega)
      have e3 : decide ((k : Int) + 1 < (h : Int) + 1) = false := decide_eq_false (by omega)
      by_cases d6 : F h = h + 1
      · have HA : Hid (ShapeAt m T F k) := ⟨by omega, by omega, .inr ⟨h, hhk, hh, d6⟩⟩
        rw [d6] at g3
        clear d6 d3 d3' d4 d5 hh f1 f2
        go_wp2
        go_round
        case rel => exact ⟨k + 1, by omega, by go_num, upto hall HA.out⟩
        case measure => simp [intOf]; omega
      · have d6' : (F h != (h : Int) + 1) = true := by simp [d6]
        clear d6 d3 d3' d4 d5 hh f1 f2
        go_wp2
        go_ret
        exact ⟨false, rfl, rfl, fun h => by cases h⟩
    · have hkn : k = n := by omega
      subst hkn
      go_wp2
      go_loop [14] (fun i => ∃ t : Nat, t ≤ m ∧ i = .int .i64 t ∧ ∀ j, j < t → 0 ≤ L j ∧ L j ≤ k) (fun i => m - (intOf i).toNat)
      case atStart => exact ⟨0, Nat.zero_le _, rfl, fun j hj => by omega⟩
      case round =>
        obtain ⟨t, ht, rfl, hall2⟩ := hrel
        by_cases hlt2 : t < m
        · obtain ⟨b4, o4, rfl, hb4, hc4⟩ := at_of s4 t hlt2
          have g4 := hc4.out t hlt2
          obtain ⟨l1, l2⟩ := hL t
          by_cases d1 : L t < 0
          · go_wp2
            go_ret
            exact ⟨false, rfl, rfl, fun h => by cases h⟩
          by_cases d2 : (k : Int) < L t
          · go_wp2
            go_ret
            exact ⟨false, rfl, rfl, fun h => by cases h⟩
          go_wp2
          go_round
          case rel => exact ⟨t + 1, by omega, by go_num, upto hall2 ⟨by omega, by omega⟩⟩
          case measure => simp [intOf]; omega
        · have htm : t = m := by omega
          subst htm
          go_wp2
          go_ret
          exact ⟨true, rfl, rfl, fun _ => ⟨rfl, rfl, rfl, hall, hall2⟩⟩
end Go.Proofs.Qxb6603494a.kept
