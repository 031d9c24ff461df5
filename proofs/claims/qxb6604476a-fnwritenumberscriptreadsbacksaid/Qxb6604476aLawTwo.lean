/-
  THE WALK of FnWriteNumberScriptReadsBack.
-/
import Derived.Test.Qxb6604476aLawOne
namespace Go.Proofs.Qxb6604476a.num
open Go.RowKit

theorem upto {p : Nat → Prop} {k : Nat} (h : ∀ j, j < k → p j) (hk : p k) : ∀ j, j < k + 1 → p j := by
  intro j hj
  by_cases e : j = k
  · subst e; exact hk
  · exact h j (by omega)

/-- The program so far: code, then the first k numbers. -/
def prog (n : Nat) (f : Nat → Int) (Z : Nat → Int) (k : Nat) : List Int := bytesOf n f ++ encs Z k
theorem prog_len (n : Nat) (f Z : Nat → Int) (k : Nat) : (prog n f Z k).length = n + (encs Z k).length := by unfold prog; rw [List.length_append, bytesOf_len]
theorem prog_succ (n : Nat) (f Z : Nat → Int) (k : Nat) : prog n f Z k ++ enc (Z k) = prog n f Z (k + 1) := by unfold prog; rw [List.append_assoc]; rfl
theorem prog_head (n : Nat) (f Z : Nat → Int) (k i : Nat) (hi : i < n) : (prog n f Z k)[i]? = some (f i) := by
  unfold prog; rw [List.getElem?_append_left (by rw [bytesOf_len]; exact hi)]; exact bytesOf_at n f i hi
theorem prog_at (n : Nat) (f Z : Nat → Int) (m k j : Nat) (hk : k < m) (hj : j < (enc (Z k)).length) : (prog n f Z m)[n + (encs Z k).length + j]? = (enc (Z k))[j]? := by
  unfold prog
  rw [List.getElem?_append_right (by rw [bytesOf_len]; omega), bytesOf_len, show n + (encs Z k).length + j - n = (encs Z k).length + j from by omega]
  exact encs_at Z m k j hk hj

set_option maxRecDepth 100000 in
set_option maxHeartbeats 2000000 in
theorem law6 (a b : Option Addr) (n c m d : Nat) (f Z : Nat → Int) (w : World) (hZ : ∀ i, Z i ≤ 9223372036854775807) (hs : Sl .u8 w a n f) (s1 : Sl .i64 w b m Z) :
    Calls Try.prog 6 #[.slice a n c, .slice b m d] w (LawSaid w) := by
  have HZ := hide hZ
  clear hZ
  by_cases t0 : 524288 < (n : Int)
  · go_enter Try.func6, Try.ntmps6
    go_wp2_with fail
    refine (bytes16 a b n c m d w).mono ?_
    rintro e w' ⟨bo, rfl, rfl⟩
    cases bo
    all_goals
      go_wp2
      go_ret
      exact ⟨rfl, Below.refl _ _⟩
  by_cases t1 : 65536 < (m : Int)
  · go_enter Try.func6, Try.ntmps6
    go_wp2_with fail
    refine (bytes16 a b n c m d w).mono ?_
    rintro e w' ⟨bo, rfl, rfl⟩
    cases bo
    all_goals
      go_wp2
      go_ret
      exact ⟨rfl, Below.refl _ _⟩
  go_enter Try.func6, Try.ntmps6
  go_wp2_with fail
  refine (bytes16 a b n c m d w).mono ?_
  rintro e w' ⟨bo, rfl, rfl⟩
  cases bo
  case false =>
    go_wp2
    go_ret
    exact ⟨rfl, Below.refl _ _⟩
  go_wp2
  go_loop [5] (fun i => ∃ k : Nat, k ≤ m ∧ i = .int .i64 k ∧ ∀ j, j < k → 0 ≤ Z j) (fun i => m - (intOf i).toNat)
  case atStart => exact ⟨0, Nat.zero_le _, rfl, fun j hj => by omega⟩
  case round =>
    obtain ⟨k, hk, rfl, hall⟩ := hrel
    have HA := hide hall
    clear hall
    by_cases hlt : k < m
    · obtain ⟨b1, o1, rfl, hb1, hc1⟩ := at_of s1 k hlt
      have g1 := hc1.out k hlt
      by_cases hz : Z k < 0
      · go_wp2
        go_ret
        exact ⟨rfl, Below.refl _ _⟩
      · go_wp2
        go_round
        case rel => exact ⟨k + 1, by omega, by go_num, upto (unhide HA) (by omega)⟩
        case measure => simp [intOf]; omega
    · have hkm : m = k := by omega
      subst hkm
      go_wp2_with fail
      refine (clone a n c f w (by omega) hs).mono ?_
      rintro e w1 ⟨a1, c1, rfl, ho1, hcd1, hb1⟩
      have hzz := unhide HA
      have HP := hide hzz
      clear HA hzz hs
      go_wp2
      go_loopw [6, 7] (fun v i wr => ∃ (k : Nat) (a2 : Option Addr) (n2 c2 : Nat), k ≤ m ∧ i = .int .i64 k ∧ v = .slice a2 n2 c2 ∧ Owns wr w.heap.size (.slice a2 n2 c2) (prog n f Z k) ∧ Cd wr a1 n f ∧ Below w.heap.size w wr) (fun _ i _ => m - (intOf i).toNat)
      case atStart => exact ⟨0, a1, n, c1, Nat.zero_le _, rfl, rfl, by unfold prog encs; rw [List.append_nil]; exact ho1, hcd1, hb1⟩
      case round =>
        clear ho1 hcd1 hb1
        obtain ⟨k, a2, n2, c2, hk, rfl, rfl, ho2, hcd2, hb2⟩ := hrel
        by_cases hlt : k < m
        · obtain ⟨bb, ob, rfl, hbb, hcb⟩ := at_of s1 k hlt
          have g1 := (hb2.cell hbb).trans (hcb.out k hlt)
          go_wp2_with fail
          refine (writeNumber w.heap.size a2 n2 c2 (prog n f Z k) (Z k) wr ho2 hb2.size (unhide HP k hlt) (unhide HZ k) (by rw [prog_len]; have := encs_len Z k; omega)).mono ?_
          rintro e w3 ⟨v3, rfl, ho3, hap⟩
          obtain ⟨a3, n3, c3, hv3⟩ := ho3.form
          subst hv3
          rw [prog_succ] at ho3
          have hcd3 := hcd2.app hap (by rw [prog_len]; omega)
          have hb3 : Below w.heap.size w w3 := hb2.trans (hap.below ho2 hb2.size)
          clear hap ho2 hcd2
          go_wp2
          go_roundw
          case rel => exact ⟨k + 1, a3, n3, c3, by omega, by go_num, rfl, ho3, hcd3, hb3⟩
          case measure => simp [intOf]; omega
        · have hkm : m = k := by omega
          subst hkm
          generalize hw2 : wr = w2 at *
          clear hw2
          have hlen2 : n2 = n + (encs Z m).length := by rw [ho2.len, prog_len]
          have hel := encs_len Z m
          have hge : decide ((n2 : Int) < (n : Int)) = false := decide_eq_false (by omega)
          have hge' : decide (n2 < n) = false := decide_eq_false (by omega)
          have HL := hide hlen2
          have hn2 : n2 ≤ 2000000 := by omega
          have hnn2 : n ≤ n2 := by omega
          clear hlen2 hel
          go_wp2
          go_loopw [8] (fun i wr => ∃ k : Nat, k ≤ n ∧ i = .int .i64 k ∧ Below w.heap.size w wr ∧ Below w2.heap.size w2 wr) (fun i _ => n - (intOf i).toNat)
          case atStart => exact ⟨0, Nat.zero_le _, rfl, hb2, Below.refl _ _⟩
          case round =>
            obtain ⟨k, hk, rfl, hbw, hbz⟩ := hrel
            by_cases hlt : k < n
            · obtain ⟨g1, rfl, hc1⟩ := (hcd2.below hbz).at_of k hlt
              obtain ⟨g2, rfl, _, hc2⟩ := (ho2.below hbz).at_ (prog_head n f Z m k hlt)
              have hlt1 : (k : Int) < (n : Int) := by omega
              have hlt2 : (k : Int) < (n2 : Int) := by omega
              go_wp2
              go_quiet (fail)
              go_wp2
              go_roundw
              case rel => exact ⟨k + 1, by omega, by go_num, below_draws hbw _, below_draws hbz _⟩
              case measure => simp [intOf]; omega
            · have hkn : n = k := by omega
              subst hkn
              have ho3 := ho2.below hbz
              generalize hw3 : wr = w3 at *
              clear hw3
              go_wp2
              go_loop [9, 10] (fun p i => ∃ k q : Nat, k ≤ m ∧ i = .int .i64 k ∧ p = .int .i64 q ∧ Hid (q = n + (encs Z k).length)) (fun _ i => m - (intOf i).toNat)
              case atStart => exact ⟨0, n, Nat.zero_le _, rfl, rfl, rfl⟩
              case round =>
                obtain ⟨k, q, hk, rfl, rfl, HQ⟩ := hrel
                by_cases hlt : k < m
                · obtain ⟨bb, ob, rfl, hbb, hcb⟩ := at_of s1 k hlt
                  have g1 := (hbw.cell hbb).trans (hcb.out k hlt)
                  have hz0 := unhide HP k hlt
                  have hz1 := unhide HZ k
                  have hwr : IntKind.u64.wrap (Z k) = Z k := by rw [IntKind.wrap_u64]; omega
                  have hkm' : (k : Int) < (m : Int) := by omega
                  go_wp2_with fail
                  refine (read_at ho3 q (Z k) hz0 hz1 (by omega) (fun j hj => by rw [unhide HQ]; exact prog_at n f Z m k j hlt hj)).mono ?_
                  rintro e w4 ⟨rfl, hw4⟩
                  subst hw4
                  obtain ⟨q', hq'⟩ : ∃ q' : Nat, q + (enc (Z k)).length = q' := ⟨_, rfl⟩
                  have hq2 : (q : Int) + ((enc (Z k)).length : Int) = (q' : Int) := by omega
                  rw [hq2]
                  have HQ' : Hid (q' = n + (encs Z (k + 1)).length) := by
                    unfold Hid; rw [← hq', unhide HQ]; show _ = n + (encs Z k ++ enc (Z k)).length; rw [List.length_append]; omega
                  clear hq' hq2
                  go_wp2
                  go_round
                  case rel => exact ⟨k + 1, q', by omega, by go_num, rfl, HQ'⟩
                  case measure => simp [intOf]; omega
                · have hkm : m = k := by omega
                  subst hkm
                  have hqn : q = n2 := by rw [unhide HQ, unhide HL]
                  subst hqn
                  go_wp2
                  go_ret
                  exact ⟨rfl, hbw⟩
end Go.Proofs.Qxb6604476a.num
