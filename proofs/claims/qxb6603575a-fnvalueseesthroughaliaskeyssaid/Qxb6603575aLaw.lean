/-
  THE WALK of FnValueSeesThroughAliasKeys.
-/
import Derived.Test.Qxb6603575aGet
import Derived.LaidEqlPtr
namespace Go.Proofs.Qxb6603575a.val
open Go.RowKit

/-- WHAT THE LAW ANSWERS. -/
def LawSaid (w : World) (e : Ending) (w' : World) : Prop := e = .returned (.bool true) ∧ Below w.heap.size w w'

/-- 'present': is key among the first k keys? -/
def Seen (K : Nat → ByteArray) (key : ByteArray) (k : Nat) (b : Bool) : Prop := b = true ↔ ∃ j, j < k ∧ K j = key

theorem First.seen {K : Nat → ByteArray} {key : ByteArray} {n : Nat} {r : Option Nat} {b : Bool} (h : First K key n r) (hs : Seen K key n b) : b = r.isSome := by
  rcases h with ⟨i, rfl, hi, e, m⟩ | ⟨rfl, m⟩
  · exact hs.2 ⟨i, hi, e⟩
  · cases b with
    | false => rfl
    | true => obtain ⟨j, hj, e⟩ := hs.1 rfl; exact absurd e (m j hj)

theorem Seen.hit {K : Nat → ByteArray} {key : ByteArray} {k : Nat} (e : K k = key) : Seen K key (k + 1) true := ⟨fun _ => ⟨k, by omega, e⟩, fun _ => rfl⟩
theorem Seen.miss {K : Nat → ByteArray} {key : ByteArray} {k : Nat} {b : Bool} (h : Seen K key k b) (e : K k ≠ key) : Seen K key (k + 1) b := by
  refine ⟨fun hb => ?_, fun ⟨j, hj, hk⟩ => ?_⟩
  · obtain ⟨j, hj, hk⟩ := h.1 hb; exact ⟨j, by omega, hk⟩
  · by_cases c : j = k
    · subst c; exact absurd hk e
    · exact h.2 ⟨j, by omega, hk⟩

set_option maxRecDepth 100000 in
set_option maxHeartbeats 4000000 in
theorem law (a : Option Addr) (n c : Nat) (key : ByteArray) (K : Nat → ByteArray) (A : Nat → Bool) (M V : Nat → ByteArray) (w : World) (hn : n ≤ maxLen) (hk : key.size ≤ maxLen)
    (hK : ∀ i, (K i).size ≤ maxLen) (hM : ∀ i, (M i).size ≤ maxLen) (hV : ∀ i, (V i).size ≤ maxLen) (hs : Ent w a n K A M V) :
    Calls Try.prog 3 #[.slice a n c, .string key] w (LawSaid w) := by
  have H7 := hide (bytes a n c key K A M V w hn hk hK hM hV hs)
  have H8 := hide (tooBig a n c key K A M V w hn hk hK hM hV hs)
  clear hK hM hV hn hk
  go_enter Try.func3, Try.ntmps3
  go_wp2_with fail
  refine (unhide H7).mono ?_
  rintro e w' ⟨bo, rfl, hw⟩
  subst hw
  cases bo
  case false =>
    go_wp2
    go_ret
    exact ⟨rfl, Below.refl _ _⟩
  go_wp2_with fail
  refine (unhide H8).mono ?_
  rintro e w' ⟨bo, rfl, hw, hsm⟩
  subst hw
  cases bo
  case true =>
    clear hsm
    go_wp2
    go_ret
    exact ⟨rfl, Below.refl _ _⟩
  have hn : n ≤ 65536 := hsm rfl
  clear hsm H7 H8
  go_wp2_with fail
  refine (values a n c K A M V w hn hs).mono ?_
  rintro e w1 ⟨vb, P, rfl, hv, hb1⟩
  have HV := hide hv
  clear hv
  go_wp2_with fail
  refine (mapping a n c vb true K A M V P w1 hn (hs.below hb1) (unhide HV)).mono ?_
  rintro e w2 ⟨mp, rfl, hm, hb2⟩
  have hB2 := bstep hb1 hb2
  go_wp2_with fail
  refine (fieldsValue mp n key K P w2 hn hm).mono ?_
  rintro e w3 ⟨r, rfl, hf, hb3⟩
  have hB3 := bstep hB2 hb3
  have HV3 := hide ((unhide HV).below (bstep hb2 hb3))
  clear hm HV
  go_wp2_with fail
  refine (mapping a n c vb false K A M V P w3 hn (hs.below hB3) (unhide HV3)).mono ?_
  rintro e w4 ⟨mp', rfl, hm', hb4⟩
  have hB4 := bstep hB3 hb4
  go_wp2_with fail
  refine (fieldsValue mp' n key K P w4 hn hm').mono ?_
  rintro e w5 ⟨r', rfl, hf', hb5⟩
  have hB5 := bstep hB4 hb5
  obtain rfl : r = r' := hf.one hf'
  have HF := hide hf
  clear hf hf' hm' HV3 hb1 hb2 hb3 hb4 hb5 hB2 hB3 hB4
  have hs5 := hs.below hB5
  clear hs
  go_wp2
  go_loop [8, 9] (fun p i => ∃ (k : Nat) (b : Bool), k ≤ n ∧ i = .int .i64 k ∧ p = .bool b ∧ Seen K key k b) (fun _ i => n - (intOf i).toNat)
  case atStart => exact ⟨0, false, Nat.zero_le _, rfl, rfl, ⟨fun h => (by cases h), fun ⟨j, hj, _⟩ => (by omega)⟩⟩
  case round =>
    obtain ⟨k, b, hk, rfl, rfl, hsee⟩ := hrel
    have HS := hide hsee
    clear hsee
    by_cases hlt : k < n
    · obtain ⟨bk, off, rfl, hb, he⟩ := hs5.at_of k hlt
      have g0 := he.k
      by_cases e : K k = key
      · rw [e] at g0
        have HE := hide e
        clear e
        go_wp2
        go_round
        case rel => exact ⟨k + 1, true, by omega, by go_num, rfl, Seen.hit (unhide HE)⟩
        case measure => simp [intOf]; omega
      · have HE := hide e
        have e' := str_ne e
        clear e
        go_wp2
        go_round
        case rel => exact ⟨k + 1, b, by omega, by go_num, rfl, (unhide HS).miss (unhide HE)⟩
        case measure => simp [intOf]; omega
    · have hkn : n = k := by omega
      subst hkn
      obtain rfl : b = r.isSome := (unhide HF).seen (unhide HS)
      cases r with
      | none =>
        go_wp2
        go_ret
        exact ⟨rfl, hB5⟩
      | some i =>
        obtain ⟨j, hj⟩ : ∃ j, Try.prog.info? 34 = some j := Option.isSome_iff_exists.1 (by kernel_rfl)
        have hpe := fun w => run_eql_ptr_same (P := Try.prog) (w := w) (P i) Try.underlying26 hj
        go_wp2
        go_ret
        exact ⟨rfl, hB5⟩
end Go.Proofs.Qxb6603575a.val
