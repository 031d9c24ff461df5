/-
  THE BASE of the proof of 'Rows.FnValueSeesThroughAliasKeysSaid': what the walks are told of a slice of entries; the walks of the two bounds' functions.
-/
import Derived.Test.Qxb6603575aRows
import Derived.WalkKit
import Derived.WalkSpells
import Derived.ProofKit
import Derived.OpenShut
import Derived.Below
import Derived.Deep.OwnRows
import Derived.Deep.Draws
namespace Go.Proofs.Qxb6603575a.val
open Go.RowKit

theorem hide {p : Prop} (h : p) : Hid p := h
theorem unhide {p : Prop} (h : Hid p) : p := h

/-- ENTRY i's FOUR CELLS: key, via alias, the alias's name, value. -/
structure EntAt (w : World) (b off i : Nat) (K : Nat → ByteArray) (A : Nat → Bool) (M V : Nat → ByteArray) : Prop where
  k : w.cell? ⟨b, off + i * 4, none⟩ = some (.string (K i))
  a : w.cell? ⟨b, off + i * 4 + 1, none⟩ = some (.bool (A i))
  m : w.cell? ⟨b, off + i * 4 + 2, none⟩ = some (.string (M i))
  v : w.cell? ⟨b, off + i * 4 + 3, none⟩ = some (.string (V i))

/-- A SLICE OF n ENTRIES: it is empty, or it leads to n times four cells of a block that is there. -/
def Ent (w : World) (a : Option Addr) (n : Nat) (K : Nat → ByteArray) (A : Nat → Bool) (M V : Nat → ByteArray) : Prop :=
  n = 0 ∨ ∃ b off, a = some ⟨b, off, none⟩ ∧ b < w.heap.size ∧ Hid (∀ i, i < n → EntAt w b off i K A M V)

theorem EntAt.below {w w' : World} {b off i : Nat} {K : Nat → ByteArray} {A : Nat → Bool} {M V : Nat → ByteArray} (h : EntAt w b off i K A M V) (hb : Below w.heap.size w w') : EntAt w' b off i K A M V :=
  have up : ∀ {a : Addr} {v : Value}, w.cell? a = some v → w'.cell? a = some v := fun h => (hb.cell (World.block_lt_of_cell? _ _ h)).trans h
  ⟨up h.k, up h.a, up h.m, up h.v⟩

theorem Ent.below {w w' : World} {a : Option Addr} {n : Nat} {K : Nat → ByteArray} {A : Nat → Bool} {M V : Nat → ByteArray} (h : Ent w a n K A M V) (hb : Below w.heap.size w w') : Ent w' a n K A M V := by
  rcases h with h | ⟨b, off, ha, hlt, hc⟩
  · exact .inl h
  · exact .inr ⟨b, off, ha, Nat.lt_of_lt_of_le hlt hb.size, hide fun i hi => (unhide hc i hi).below hb⟩

theorem Ent.at_of {w : World} {a : Option Addr} {n : Nat} {K : Nat → ByteArray} {A : Nat → Bool} {M V : Nat → ByteArray} (h : Ent w a n K A M V) (i : Nat) (hi : i < n) :
    ∃ b off, a = some ⟨b, off, none⟩ ∧ b < w.heap.size ∧ EntAt w b off i K A M V := by
  rcases h with h | ⟨b, off, ha, hlt, hc⟩
  · omega
  · exact ⟨b, off, ha, hlt, unhide hc i hi⟩

theorem bstep {w w1 w2 : World} (h : Below w.heap.size w w1) (h' : Below w1.heap.size w1 w2) : Below w.heap.size w w2 :=
  h.trans (h'.mono h.size)

/-- A bool, and nothing has turned. -/
def AnyBool (w : World) (e : Ending) (w' : World) : Prop := ∃ bo, e = .returned (.bool bo) ∧ w = w'

set_option maxRecDepth 100000 in
set_option maxHeartbeats 4000000 in
theorem bytes (a : Option Addr) (n c : Nat) (key : ByteArray) (K : Nat → ByteArray) (A : Nat → Bool) (M V : Nat → ByteArray) (w : World) (hn : n ≤ maxLen) (_hk : key.size ≤ maxLen)
    (hK : ∀ i, (K i).size ≤ maxLen) (hM : ∀ i, (M i).size ≤ maxLen) (hV : ∀ i, (V i).size ≤ maxLen) (hs : Ent w a n K A M V) :
    Calls Try.prog 7 #[.slice a n c, .string key] w (AnyBool w) := by
  unfold maxLen at hn _hk hK hM hV
  by_cases d0 : 1048576 < (n : Int)
  · go_enter Try.func7, Try.ntmps7
    go_wp2
    go_ret
    exact ⟨_, rfl, rfl⟩
  have hKK := hide hK; clear hK
  have hMM := hide hM; clear hM
  have hVV := hide hV; clear hV
  go_enter Try.func7, Try.ntmps7
  go_wp2
  go_loop [5, 6] (fun z i => ∃ (k : Nat) (x : Int), k ≤ n ∧ i = .int .i64 k ∧ z = .int .i64 x) (fun _ i => n - (intOf i).toNat)
  case atStart => exact ⟨0, _, Nat.zero_le _, rfl, rfl⟩
  case round =>
    obtain ⟨k, x, hle, rfl, rfl⟩ := hrel
    by_cases hlt : k < n
    · obtain ⟨b, off, rfl, hb, he⟩ := hs.at_of k hlt
      have g0 := he.k
      have g2 := he.m
      have g3 := he.v
      have y0 := unhide hKK k
      have y1 := unhide hMM k
      have y2 := unhide hVV k
      go_wp2
      all_goals first
        | (go_ret; exact ⟨_, rfl, rfl⟩)
        | (go_round; (case rel => exact ⟨k + 1, _, by omega, by go_num, rfl⟩); (case measure => simp [intOf]; omega))
    · go_wp2
      all_goals (go_ret; exact ⟨_, rfl, rfl⟩)

/-- A bool; where it is false there are at most 65536 entries. -/
def BigSaid (n : Nat) (w : World) (e : Ending) (w' : World) : Prop := ∃ bo, e = .returned (.bool bo) ∧ w = w' ∧ (bo = false → n ≤ 65536)

set_option maxRecDepth 100000 in
set_option maxHeartbeats 4000000 in
theorem tooBig (a : Option Addr) (n c : Nat) (key : ByteArray) (K : Nat → ByteArray) (A : Nat → Bool) (M V : Nat → ByteArray) (w : World) (hn : n ≤ maxLen) (hk : key.size ≤ maxLen)
    (hK : ∀ i, (K i).size ≤ maxLen) (hM : ∀ i, (M i).size ≤ maxLen) (hV : ∀ i, (V i).size ≤ maxLen) (hs : Ent w a n K A M V) :
    Calls Try.prog 8 #[.slice a n c, .string key] w (BigSaid n w) := by
  unfold maxLen at hn hk hK hM hV
  by_cases d0 : 65536 < (n : Int)
  · go_enter Try.func8, Try.ntmps8
    go_wp2
    go_ret
    exact ⟨true, rfl, rfl, fun h => by cases h⟩
  have d0' : decide (65536 < (n : Int)) = false := decide_eq_false d0
  by_cases d1 : 1048576 < (key.size : Int)
  · go_enter Try.func8, Try.ntmps8
    go_wp2
    go_ret
    exact ⟨true, rfl, rfl, fun h => by cases h⟩
  have d1' : decide (1048576 < (key.size : Int)) = false := decide_eq_false d1
  by_cases d2 : 1048576 < (key.size : Int) + 64 * (n : Int)
  · go_enter Try.func8, Try.ntmps8
    go_wp2
    go_ret
    exact ⟨true, rfl, rfl, fun h => by cases h⟩
  have hKK := hide hK; clear hK
  have hMM := hide hM; clear hM
  have hVV := hide hV; clear hV
  go_enter Try.func8, Try.ntmps8
  go_wp2
  go_loop [5, 6] (fun z i => ∃ (k : Nat) (x : Int), k ≤ n ∧ i = .int .i64 k ∧ z = .int .i64 x) (fun _ i => n - (intOf i).toNat)
  case atStart => exact ⟨0, _, Nat.zero_le _, rfl, rfl⟩
  case round =>
    obtain ⟨k, x, hle, rfl, rfl⟩ := hrel
    by_cases hlt : k < n
    · obtain ⟨b, off, rfl, hb, he⟩ := hs.at_of k hlt
      have g0 := he.k
      have g2 := he.m
      have g3 := he.v
      have y0 := unhide hKK k
      have y1 := unhide hMM k
      have y2 := unhide hVV k
      go_wp2
      all_goals first
        | (go_ret; exact ⟨true, rfl, rfl, fun h => by cases h⟩)
        | (go_round; (case rel => exact ⟨k + 1, _, by omega, by go_num, rfl⟩); (case measure => simp [intOf]; omega))
    · go_wp2
      go_ret
      exact ⟨false, rfl, rfl, fun _ => by omega⟩
end Go.Proofs.Qxb6603575a.val
