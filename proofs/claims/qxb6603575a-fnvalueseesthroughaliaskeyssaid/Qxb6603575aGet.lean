/-
  THE WALKS of Get, Value, ZZfieldsValue.
-/
import Derived.Test.Qxb6603575aMapping
namespace Go.Proofs.Qxb6603575a.val
open Go.RowKit

/-- THE FIRST OF n KEYS THAT IS key; none. -/
def First (K : Nat → ByteArray) (key : ByteArray) (n : Nat) (r : Option Nat) : Prop :=
  (∃ i, r = some i ∧ i < n ∧ K i = key ∧ ∀ j, j < i → K j ≠ key) ∨ (r = none ∧ ∀ j, j < n → K j ≠ key)

theorem First.one {K : Nat → ByteArray} {key : ByteArray} {n : Nat} {r r' : Option Nat} (h : First K key n r) (h' : First K key n r') : r = r' := by
  rcases h with ⟨i, rfl, hi, e, m⟩ | ⟨rfl, m⟩
  · rcases h' with ⟨i', rfl, hi', e', m'⟩ | ⟨rfl, m'⟩
    · by_cases c : i < i'
      · exact absurd e (m' i c)
      · by_cases c' : i' < i
        · exact absurd e' (m i' c')
        · rw [show i = i' from by omega]
    · exact absurd e (m' i hi)
  · rcases h' with ⟨i', rfl, hi', e', m'⟩ | ⟨rfl, m'⟩
    · exact absurd e' (m i' hi')
    · rfl

theorem str_ne {a b : ByteArray} (h : a ≠ b) : (a.toList == b.toList) = false := by
  rw [beq_eq_false_iff_ne]
  intro e
  apply h
  rw [ByteArray.toList_eq, ByteArray.toList_eq] at e
  cases a; cases b
  congr
  exact Array.toList_inj.1 e

def GetSaid (K : Nat → ByteArray) (key : ByteArray) (n : Nat) (P : Nat → Addr) (w : World) (e : Ending) (w' : World) : Prop :=
  ∃ r : Option Nat, e = .returned (.tuple #[.pointer (r.map P), .bool r.isSome]) ∧ First K key n r ∧ Below w.heap.size w w'

set_option maxHeartbeats 2000000 in
theorem get (mp n : Nat) (key : ByteArray) (K : Nat → ByteArray) (P : Nat → Addr) (w : World) (hn : n ≤ 65536) (hm : MapIs w mp n K P) :
    Calls Try.prog 20 #[.agg #[.pointer (some ⟨mp, 0, none⟩)], .string key] w (GetSaid K key n P w) := by
  obtain ⟨ib, h6, HI⟩ := hm
  have g6 := fun o => cell_old w o h6
  go_enter Try.func20, Try.ntmps20
  go_wp2
  go_loop [6] (fun i => ∃ k : Nat, k ≤ n ∧ i = .int .i64 (2 * (k : Int)) ∧ ∀ j, j < k → K j ≠ key) (fun i => 2 * n - (intOf i).toNat)
  case atStart => exact ⟨0, Nat.zero_le _, rfl, fun j hj => by omega⟩
  case round =>
    obtain ⟨k, hk, rfl, hall⟩ := hrel
    have HA := hide hall
    clear hall
    by_cases hlt : k < n
    · obtain ⟨q, c0, c1, hkey⟩ := unhide HI k hlt
      have g0 := fun o => cell_old w o c0
      have g1 := fun o => cell_old w o c1
      have hkey' : ∀ o, KeyAt (w.alloc o) ib q (K k) := fun o => hkey.kept fun _ _ _ _ hc => cell_old _ _ hc
      have HK := hide hkey'
      clear hkey hkey'
      have hlt2 : 2 * (k : Int) < 2 * (n : Int) := by omega
      have hlt3 : 2 * (k : Int) + 1 < 2 * (n : Int) := by omega
      go_wp2_with fail
      refine (resolve ib q (K k) _ (unhide HK _)).mono ?_
      rintro e w' ⟨r, rfl, hr, hw⟩
      subst hw
      by_cases e : K k = key
      · rw [e] at hr
        have HE := hide e
        clear e
        go_wp2
        go_ret2
        exact ⟨some k, rfl, .inl ⟨k, rfl, hlt, unhide HE, unhide HA⟩, (Below.refl _ _).alloc (Nat.le_refl _) _⟩
      · have HE := hide e
        have e' := str_ne e
        clear e
        go_wp2
        go_round
        case rel =>
          refine ⟨k + 1, by omega, by go_num, fun j hj => ?_⟩
          by_cases c : j = k
          · subst c; exact unhide HE
          · exact unhide HA j (by omega)
        case measure => simp [intOf]; omega
    · have hkn : n = k := by omega
      subst hkn
      have hz : ¬ (2 * (n : Int) < 2 * (n : Int)) := by omega
      go_wp2
      go_ret2
      exact ⟨none, rfl, .inr ⟨rfl, unhide HA⟩, (Below.refl _ _).alloc (Nat.le_refl _) _⟩

def ValueSaid (K : Nat → ByteArray) (key : ByteArray) (n : Nat) (P : Nat → Addr) (w : World) (e : Ending) (w' : World) : Prop :=
  ∃ r : Option Nat, e = .returned (.pointer (r.map P)) ∧ First K key n r ∧ Below w.heap.size w w'

theorem value (mp n : Nat) (key : ByteArray) (K : Nat → ByteArray) (P : Nat → Addr) (w : World) (hn : n ≤ 65536) (hm : MapIs w mp n K P) :
    Calls Try.prog 17 #[.agg #[.pointer (some ⟨mp, 0, none⟩)], .string key] w (ValueSaid K key n P w) := by
  go_enter Try.func17, Try.ntmps17
  go_wp2_with fail
  refine (get mp n key K P _ hn (hm.below ((Below.refl _ _).alloc (Nat.le_refl _) _))).mono ?_
  rintro e w' ⟨r, rfl, hf, hb⟩
  go_wp2
  go_ret
  exact ⟨r, rfl, hf, bstep ((Below.refl _ _).alloc (Nat.le_refl _) _) hb⟩

theorem fieldsValue (mp n : Nat) (key : ByteArray) (K : Nat → ByteArray) (P : Nat → Addr) (w : World) (hn : n ≤ 65536) (hm : MapIs w mp n K P) :
    Calls Try.prog 10 #[.pointer (some ⟨mp, 0, none⟩), .string key] w (ValueSaid K key n P w) := by
  go_enter Try.func10, Try.ntmps10
  go_wp2_with fail
  refine (value mp n key K P _ hn hm).mono ?_
  rintro e w' ⟨r, rfl, hf, hb⟩
  go_wp2
  go_ret
  exact ⟨r, rfl, hf, hb⟩
end Go.Proofs.Qxb6603575a.val
