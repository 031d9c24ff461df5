/-
  THE WALK of FnWriteNumberDecodesBack.
-/
import Derived.Test.Qxb6604476aRead
namespace Go.Proofs.Qxb6604476a.num
open Go.RowKit

/-- WHAT A LAW ANSWERS. -/
def LawSaid (w : World) (e : Ending) (w' : World) : Prop := e = .returned (.bool true) ∧ Below w.heap.size w w'

/-- THE READER AT A PLACE WHERE N IS SPELT. -/
theorem read_at {w : World} {base : Nat} {a : Option Addr} {n c : Nat} {l : List Int} (ho : Owns w base (.slice a n c) l) (pos : Nat) (N : Int) (h0 : 0 ≤ N) (h1 : N ≤ 9223372036854775807) (hn : n ≤ 1000000000)
    (hat : ∀ j, j < (enc N).length → l[pos + j]? = (enc N)[j]?) : Calls Try.prog 15 #[.slice a n c, .int .i64 pos] w (ReadSaid N ((pos : Int) + (enc N).length) w) := by
  have hl := ho.len
  have hlen := enc_len N
  have e0 := hat 0 (by omega)
  by_cases hs : N < 255
  · rw [enc_short hs] at hat e0 ⊢
    have e0' : l[pos]? = some N := e0
    have hp := (List.getElem?_eq_some_iff.1 e0').1
    obtain ⟨g, rfl, _, hc⟩ := ho.at_ e0'
    exact read_short g pos n c N w (by omega) hn h0 hs hc
  · rw [enc_long hs] at hat e0 ⊢
    have e0' : l[pos]? = some 255 := e0
    obtain ⟨g, rfl, _, hc⟩ := ho.at_ e0'
    have e8 := hat 8 (by simp [eight])
    have e8' : l[pos + 8]? = some (N / 72057594037927936 % 256) := e8
    have hp := (List.getElem?_eq_some_iff.1 e8').1
    refine read_long g pos n c N w (by omega) hn h0 h1 hc (hide fun j z hj => ?_)
    have hj8 : j < 8 := by have := (List.getElem?_eq_some_iff.1 hj).1; simpa [eight] using this
    have ej := hat (j + 1) (by simp [eight]; omega)
    rw [List.getElem?_cons_succ, hj] at ej
    obtain ⟨g', hg', _, hc'⟩ := ho.at_ ej
    cases hg'
    exact hc'

set_option maxRecDepth 100000 in
set_option maxHeartbeats 2000000 in
theorem law5 (a : Option Addr) (n c : Nat) (f : Nat → Int) (N : Int) (w : World) (hN : N ≤ 9223372036854775807) (hs : Sl .u8 w a n f) :
    Calls Try.prog 5 #[.slice a n c, .int .i64 N] w (LawSaid w) := by
  by_cases t0 : 1048576 < (n : Int)
  · go_enter Try.func5, Try.ntmps5
    go_wp2_with fail
    refine (bytes13 a n c N w).mono ?_
    rintro e w' ⟨bo, rfl, rfl⟩
    cases bo
    all_goals
      go_wp2
      go_ret
      exact ⟨rfl, Below.refl _ _⟩
  by_cases t1 : N < 0
  · go_enter Try.func5, Try.ntmps5
    go_wp2_with fail
    refine (bytes13 a n c N w).mono ?_
    rintro e w' ⟨bo, rfl, rfl⟩
    cases bo
    all_goals
      go_wp2
      go_ret
      exact ⟨rfl, Below.refl _ _⟩
  have h0 : 0 ≤ N := by omega
  go_enter Try.func5, Try.ntmps5
  go_wp2_with fail
  refine (bytes13 a n c N w).mono ?_
  rintro e w' ⟨bo, rfl, rfl⟩
  cases bo
  case false =>
    go_wp2
    go_ret
    exact ⟨rfl, Below.refl _ _⟩
  go_wp2_with fail
  refine (clone a n c f w (by omega) hs).mono ?_
  rintro e w1 ⟨a1, c1, rfl, ho1, hcd1, hb1⟩
  go_wp2_with fail
  refine (writeNumber w.heap.size a1 n c1 (bytesOf n f) N w1 ho1 hb1.size h0 hN (by rw [bytesOf_len]; omega)).mono ?_
  rintro e w2 ⟨v2, rfl, ho2, hap⟩
  obtain ⟨a2, n2, c2, hv2⟩ := ho2.form
  subst hv2
  have hlen2 : n2 = n + (enc N).length := by rw [ho2.len, List.length_append, bytesOf_len]
  have hel := enc_len N
  have hcd2 := hcd1.app hap (by rw [bytesOf_len]; exact Nat.le_refl _)
  have hB2 : Below w.heap.size w w2 := hb1.trans (hap.below ho1 hb1.size)
  have hge : decide ((n2 : Int) < (n : Int)) = false := decide_eq_false (by omega)
  have HL := hide hlen2
  have hn2 : n2 ≤ 2000000 := by omega
  have hnn2 : n + 1 ≤ n2 := by omega
  clear hlen2 hap ho1 hcd1 hs hel
  go_wp2
  go_loopw [6] (fun i wr => ∃ k : Nat, k ≤ n ∧ i = .int .i64 k ∧ Below w.heap.size w wr ∧ Below w2.heap.size w2 wr) (fun i _ => n - (intOf i).toNat)
  case atStart => exact ⟨0, Nat.zero_le _, rfl, hB2, Below.refl _ _⟩
  case round =>
    obtain ⟨k, hk, rfl, hbw, hbz⟩ := hrel
    by_cases hlt : k < n
    · obtain ⟨g1, rfl, hc1⟩ := (hcd2.below hbz).at_of k hlt
      have hf : (bytesOf n f ++ enc N)[k]? = some (f k) := by rw [List.getElem?_append_left (by rw [bytesOf_len]; exact hlt)]; exact bytesOf_at n f k hlt
      obtain ⟨g2, rfl, _, hc2⟩ := (ho2.below hbz).at_ hf
      have hlt1 : (k : Int) < (n : Int) := by omega
      have hlt2 : (k : Int) < (n2 : Int) := by omega
      clear hf
      go_wp2
      go_quiet (fail)
      go_wp2
      go_roundw
      case rel => exact ⟨k + 1, by omega, by go_num, below_draws hbw _, below_draws hbz _⟩
      case measure => simp [intOf]; omega
    · have hkn : n = k := by omega
      subst hkn
      have ho3 := ho2.below hbz
      go_wp2_with fail
      refine (read_at ho3 n N h0 hN (by omega) (fun j hj => by rw [List.getElem?_append_right (by rw [bytesOf_len]; omega), bytesOf_len]; congr 1; omega)).mono ?_
      rintro e w3 ⟨rfl, hw3⟩
      subst hw3
      have hwr : IntKind.u64.wrap N = N := by rw [IntKind.wrap_u64]; omega
      have hnx : ((n : Int) + (enc N).length : Int) = (n2 : Int) := by have := unhide HL; omega
      rw [hnx]
      by_cases hs : N < 255
      · have hq : (n2 : Int) = (n : Int) + 1 := by have := unhide HL; rw [enc_short hs] at this; simp at this; omega
        have hq' : ((n2 : Int) == (n : Int) + 1) = true := by rw [hq]; simp
        have HQ := hide hq
        clear hq hnx
        go_wp2
        go_ret
        exact ⟨rfl, hbw⟩
      · have hq : (n2 : Int) = (n : Int) + 9 := by have := unhide HL; rw [enc_long hs] at this; simp [eight] at this; omega
        have hq' : ((n2 : Int) == (n : Int) + 9) = true := by rw [hq]; simp
        have HQ := hide hq
        clear hq hnx
        go_wp2
        go_ret
        exact ⟨rfl, hbw⟩
end Go.Proofs.Qxb6604476a.num
