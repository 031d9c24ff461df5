/-
  THE WALKS of valueNodes, resolve.
-/
import Derived.Test.Qxb6603575aBase
namespace Go.Proofs.Qxb6603575a.val
open Go.RowKit

theorem info26 : (Try.prog.info? 26).map (fun i => (i.zero, i.size, i.bytes)) = some (some (.pointer none), 1, 8) := by kernel_rfl

/-- THE VALUES' SLICE: cell i of block vb holds a pointer to P i. -/
def Ptrs (w : World) (vb n : Nat) (P : Nat → Addr) : Prop := ∀ i, i < n → w.cell? ⟨vb, i, none⟩ = some (.pointer (some (P i)))

theorem Ptrs.below {w w' : World} {vb n : Nat} {P : Nat → Addr} (h : Ptrs w vb n P) (hb : Below w.heap.size w w') : Ptrs w' vb n P :=
  fun i hi => (hb.cell (World.block_lt_of_cell? _ _ (h i hi))).trans (h i hi)

def ValuesSaid (n : Nat) (w : World) (e : Ending) (w' : World) : Prop :=
  ∃ vb P, e = .returned (.slice (some ⟨vb, 0, none⟩) n n) ∧ Ptrs w' vb n P ∧ Below w.heap.size w w'

set_option maxHeartbeats 2000000 in
theorem values (a : Option Addr) (n c : Nat) (K : Nat → ByteArray) (A : Nat → Bool) (M V : Nat → ByteArray) (w : World) (hn : n ≤ 65536) (hs : Ent w a n K A M V) :
    Calls Try.prog 9 #[.slice a n c] w (ValuesSaid n w) := by
  have mk24 := run_make_row' (P := Try.prog) 24 26 (.pointer none) 8 Try.underlying24 info26 rfl .i64 .i64 n (by omega) (by omega)
  go_enter Try.func9, Try.ntmps9
  go_wp2
  go_loopw [4] (fun i wr => ∃ k : Nat, k ≤ n ∧ i = .int .i64 k ∧ (∃ P : Nat → Addr, wr.rowIs w.heap.size 26 n (fun j => .pointer (if j < k then some (P j) else none))) ∧ Below w.heap.size w wr) (fun i _ => n - (intOf i).toNat)
  case atStart => exact ⟨0, Nat.zero_le _, rfl, ⟨fun _ => ⟨0, 0, none⟩, by simpa using World.rowIs_made w (.pointer none) n 26⟩, (Below.refl _ _).alloc (Nat.le_refl _) _⟩
  case round =>
    obtain ⟨k, hk, rfl, ⟨P, hrow⟩, hbel⟩ := hrel
    by_cases hlt : k < n
    · obtain ⟨b, off, rfl, hb, he⟩ := hs.at_of k hlt
      have g3 := (he.below hbel).v
      have y0 := fun o => (hrow.alloc o).cell hlt
      have f0 := fun o => (hrow.alloc o).frozen k
      go_wp2
      go_roundw
      case rel =>
        refine ⟨k + 1, by omega, by go_num, ⟨fun j => if j = k then ⟨wr.heap.size, 0, none⟩ else P j, ((hrow.alloc _).set k _).congr fun j hj => ?_⟩, (hbel.alloc hbel.size _).setCell (Nat.le_refl _) _⟩
        dsimp only
        by_cases e : j = k
        · subst e; rw [if_pos rfl, if_pos (by omega), if_pos rfl]
        · rw [if_neg e]
          by_cases e2 : j < k
          · rw [if_pos e2, if_pos (by omega), if_neg e]
          · rw [if_neg e2, if_neg (by omega)]
      case measure => simp [intOf]; omega
    · have hkn : n = k := by omega
      subst hkn
      go_wp2
      go_ret
      exact ⟨_, P, rfl, fun i hi => by have := hrow.cell hi; rw [if_pos hi] at this; exact this, hbel⟩

/-- A KEY'S NODE (block q, not block ib): a scalar whose text is s, or an alias of such a one. -/
def KeyAt (w : World) (ib q : Nat) (s : ByteArray) : Prop :=
  q ≠ ib ∧ ((w.cell? ⟨q, 0, none⟩ = some (.int .u8 1) ∧ w.cell? ⟨q, 4, none⟩ = some (.string s)) ∨
    ∃ r, r ≠ ib ∧ w.cell? ⟨q, 0, none⟩ = some (.int .u8 4) ∧ w.cell? ⟨q, 7, none⟩ = some (.pointer (some ⟨r, 0, none⟩)) ∧ w.cell? ⟨r, 4, none⟩ = some (.string s))

theorem KeyAt.kept {w w' : World} {ib q : Nat} {s : ByteArray} (h : KeyAt w ib q s) (up : ∀ (b o : Nat) (v : Value), b ≠ ib → w.cell? ⟨b, o, none⟩ = some v → w'.cell? ⟨b, o, none⟩ = some v) : KeyAt w' ib q s := by
  obtain ⟨hq, h⟩ := h
  rcases h with ⟨h0, h4⟩ | ⟨r, hr, h0, h7, h4⟩
  · exact ⟨hq, .inl ⟨up _ _ _ hq h0, up _ _ _ hq h4⟩⟩
  · exact ⟨hq, .inr ⟨r, hr, up _ _ _ hq h0, up _ _ _ hq h7, up _ _ _ hr h4⟩⟩

theorem KeyAt.below {w w' : World} {ib q : Nat} {s : ByteArray} (h : KeyAt w ib q s) (hb : Below w.heap.size w w') : KeyAt w' ib q s :=
  h.kept fun _ _ _ _ hc => (hb.cell (World.block_lt_of_cell? _ _ hc)).trans hc

def ResolveSaid (s : ByteArray) (w : World) (e : Ending) (w' : World) : Prop :=
  ∃ r, e = .returned (.pointer (some ⟨r, 0, none⟩)) ∧ w.cell? ⟨r, 4, none⟩ = some (.string s) ∧ w = w'

theorem resolve (ib q : Nat) (s : ByteArray) (w : World) (h : KeyAt w ib q s) : Calls Try.prog 18 #[.pointer (some ⟨q, 0, none⟩)] w (ResolveSaid s w) := by
  obtain ⟨_, h⟩ := h
  rcases h with ⟨h0, h4⟩ | ⟨r, _, h0, h7, h4⟩
  · go_enter Try.func18, Try.ntmps18
    go_wp2
    go_ret
    exact ⟨q, rfl, h4, rfl⟩
  · go_enter Try.func18, Try.ntmps18
    go_wp2
    go_ret
    exact ⟨r, rfl, h4, rfl⟩
end Go.Proofs.Qxb6603575a.val
