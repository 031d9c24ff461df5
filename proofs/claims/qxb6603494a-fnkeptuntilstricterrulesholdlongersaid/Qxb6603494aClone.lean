/-
  THE WALKS of lawCloneI32, lawCloneU8 and zzBytes_...
-/
import Derived.Test.Qxb6603494aBase
namespace Go.Proofs.Qxb6603494a.kept
open Go.RowKit

set_option maxHeartbeats 1000000 in
/-- lawCloneI32: a copy in new memory. -/
theorem clone32 (a : Option Addr) (n c : Nat) (f : Nat → Int) (w : World) (hn : n ≤ 1048576) (hs : Sl .i32 w a n f) :
    Calls Try.prog 6 #[.slice a n c] w fun e w' => ∃ a' c', e = .returned (.slice a' n c') ∧ Sl .i32 w' a' n f ∧ Below w.heap.size w w' := by
  have hmk := run_make_row' (P := Try.prog) 22 21 (.int .i32 0) 4 Try.underlying22 info21 rfl .i64 .i64 n (by omega) (by omega)
  have hnil := fun (w : World) (a : Option Addr) (l c : Nat) => Lib.run_eql_slice_nil (P := Try.prog) w 22 21 a l c 0 0 Try.underlying22
  cases a with
  | none =>
    have hn0 : n = 0 := by rcases hs with h | ⟨b, off, h, _⟩; exact h; cases h
    subst hn0
    go_enter Try.func6, Try.ntmps6
    go_wp2
    go_ret
    exact ⟨none, 0, rfl, .inl rfl, Below.refl _ _⟩
  | some x =>
    go_enter Try.func6, Try.ntmps6
    go_wp2
    go_loopw [4] (fun i wr => ∃ k : Nat, k ≤ n ∧ i = .int .i64 k ∧ wr.rowIs w.heap.size 21 n (fun j => .int .i32 (if j < k then f j else 0)) ∧ Below w.heap.size w wr) (fun i _ => n - (intOf i).toNat)
    case atStart => exact ⟨0, Nat.zero_le _, rfl, by simpa using World.rowIs_made w (.int .i32 0) n 21, (Below.refl _ _).alloc (Nat.le_refl _) _⟩
    case round =>
      obtain ⟨k, hk, rfl, hrow, hbel⟩ := hrel
      by_cases hlt : k < n
      · obtain ⟨b, off, rfl, hb, hc⟩ : ∃ b off, x = ⟨b, off, none⟩ ∧ b < w.heap.size ∧ ∀ i, i < n → w.cell? ⟨b, off + i, none⟩ = some (.int .i32 (f i)) := by
          rcases hs with h | ⟨b, off, h, h1, h2⟩
          · omega
          · exact ⟨b, off, by simpa using h, h1, h2⟩
        have hcx : wr.cell? ⟨b, off + k, none⟩ = some (.int .i32 (f k)) := (hbel.cell hb).trans (hc k hlt)
        have hcy := hrow.cell hlt
        have hfy := hrow.frozen k
        go_wp2
        go_roundw
        case rel => exact ⟨k + 1, by omega, by go_num, (hrow.set k (.int .i32 (f k))).congr (by intro j hj; by_cases h : j = k <;> simp [h] <;> (try split) <;> (try split) <;> first | rfl | omega), hbel.setCell (Nat.le_refl _) _⟩
        case measure => simp [intOf]; omega
      · go_wp2
        go_ret
        exact ⟨_, _, rfl, (Sl.row hrow).congr (by intro i hi; rw [if_pos (by omega)]), hbel⟩
set_option maxHeartbeats 1000000 in
/-- lawCloneU8: a copy in new memory. -/
theorem clone8 (a : Option Addr) (n c : Nat) (f : Nat → Int) (w : World) (hn : n ≤ 1048576) (hs : Sl .u8 w a n f) :
    Calls Try.prog 7 #[.slice a n c] w fun e w' => ∃ a' c', e = .returned (.slice a' n c') ∧ Sl .u8 w' a' n f ∧ Below w.heap.size w w' := by
  have hmk := run_make_row' (P := Try.prog) 23 5 (.int .u8 0) 1 Try.underlying23 info5 rfl .i64 .i64 n (by omega) (by omega)
  have hnil := fun (w : World) (a : Option Addr) (l c : Nat) => Lib.run_eql_slice_nil (P := Try.prog) w 23 5 a l c 0 0 Try.underlying23
  cases a with
  | none =>
    have hn0 : n = 0 := by rcases hs with h | ⟨b, off, h, _⟩; exact h; cases h
    subst hn0
    go_enter Try.func7, Try.ntmps7
    go_wp2
    go_ret
    exact ⟨none, 0, rfl, .inl rfl, Below.refl _ _⟩
  | some x =>
    go_enter Try.func7, Try.ntmps7
    go_wp2
    go_loopw [4] (fun i wr => ∃ k : Nat, k ≤ n ∧ i = .int .i64 k ∧ wr.rowIs w.heap.size 5 n (fun j => .int .u8 (if j < k then f j else 0)) ∧ Below w.heap.size w wr) (fun i _ => n - (intOf i).toNat)
    case atStart => exact ⟨0, Nat.zero_le _, rfl, by simpa using World.rowIs_made w (.int .u8 0) n 5, (Below.refl _ _).alloc (Nat.le_refl _) _⟩
    case round =>
      obtain ⟨k, hk, rfl, hrow, hbel⟩ := hrel
      by_cases hlt : k < n
      · obtain ⟨b, off, rfl, hb, hc⟩ : ∃ b off, x = ⟨b, off, none⟩ ∧ b < w.heap.size ∧ ∀ i, i < n → w.cell? ⟨b, off + i, none⟩ = some (.int .u8 (f i)) := by
          rcases hs with h | ⟨b, off, h, h1, h2⟩
          · omega
          · exact ⟨b, off, by simpa using h, h1, h2⟩
        have hcx : wr.cell? ⟨b, off + k, none⟩ = some (.int .u8 (f k)) := (hbel.cell hb).trans (hc k hlt)
        have hcy := hrow.cell hlt
        have hfy := hrow.frozen k
        go_wp2
        go_roundw
        case rel => exact ⟨k + 1, by omega, by go_num, (hrow.set k (.int .u8 (f k))).congr (by intro j hj; by_cases h : j = k <;> simp [h] <;> (try split) <;> (try split) <;> first | rfl | omega), hbel.setCell (Nat.le_refl _) _⟩
        case measure => simp [intOf]; omega
      · go_wp2
        go_ret
        exact ⟨_, _, rfl, (Sl.row hrow).congr (by intro i hi; rw [if_pos (by omega)]), hbel⟩

/-- zzBytes_..: whatever it answers, it turns nothing. -/
theorem bytes (a0 a1 a2 a3 a4 : Option Addr) (n0 c0 n1 c1 n2 c2 n3 c3 n4 c4 : Nat) (w : World) :
    Calls Try.prog 4 #[.slice a0 n0 c0, .slice a1 n1 c1, .slice a2 n2 c2, .slice a3 n3 c3, .slice a4 n4 c4] w fun e w' => ∃ bo, e = .returned (.bool bo) ∧ w' = w := by
  go_enter Try.func4, Try.ntmps4
  go_wp2
  all_goals (go_ret; exact ⟨_, rfl, rfl⟩)
end Go.Proofs.Qxb6603494a.kept
