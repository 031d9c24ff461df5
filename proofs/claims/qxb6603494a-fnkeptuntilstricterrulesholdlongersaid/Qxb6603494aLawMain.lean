/-
  THE WALK of FnKeptUntilStricterRulesHoldLonger, the lengths within their bounds.
-/
import Derived.Test.Qxb6603494aLawBig
import Derived.Test.Qxb6603494aKept
import Derived.Test.Qxb6603494aPlain2
namespace Go.Proofs.Qxb6603494a.kept
open Go.RowKit

set_option maxRecDepth 100000 in
set_option maxHeartbeats 8000000 in
theorem law_main (a0 a1 a2 a3 a4 : Option Addr) (n c0 m c1 n2 c2 n3 c3 m4 c4 : Nat) (T E F G L : Nat → Int) (w : World)
    (h0 : (n : Int) ≤ 65536) (h1 : (m : Int) ≤ 65536) (h2 : (n2 : Int) ≤ 65536) (h3 : (n3 : Int) ≤ 65536) (h4 : (m4 : Int) ≤ 65536) (h5 : 4 * ((n : Int) + m + n2 + m4) + n3 ≤ 1048576)
    (hT : I32 T) (hE : I32 E) (hF : I32 F) (hL : I32 L) (s0 : Sl .i32 w a0 n T) (s1 : Sl .i32 w a1 m E) (s2 : Sl .i32 w a2 n2 F) (s3 : Sl .u8 w a3 n3 G) (s4 : Sl .i32 w a4 m4 L) :
    Calls Try.prog 3 #[.slice a0 n c0, .slice a1 m c1, .slice a2 n2 c2, .slice a3 n3 c3, .slice a4 m4 c4] w (LawSaid w) := by
  have t0 : decide (65536 < (n : Int)) = false := decide_eq_false (by omega)
  have t1 : decide (65536 < (m : Int)) = false := decide_eq_false (by omega)
  have t2 : decide (65536 < (n2 : Int)) = false := decide_eq_false (by omega)
  have t3 : decide (65536 < (n3 : Int)) = false := decide_eq_false (by omega)
  have t4 : decide (65536 < (m4 : Int)) = false := decide_eq_false (by omega)
  have t5 : decide (1048576 < 4 * ((n : Int) + m + n2 + m4) + n3) = false := decide_eq_false (by omega)
  go_enter Try.func3, Try.ntmps3
  go_wp2_with fail
  refine (bytes a0 a1 a2 a3 a4 n c0 m c1 n2 c2 n3 c3 m4 c4 w).mono ?_
  rintro e w' ⟨bo, rfl, hw⟩
  replace hw := hw.symm
  subst hw
  cases bo
  case false =>
    go_wp2
    go_ret
    exact ⟨rfl, Below.refl _ _⟩
  go_wp2_with fail
  refine (shape a0 a1 a2 a3 a4 n c0 m c1 n2 c2 n3 c3 m4 c4 T F L w (by omega) (by omega) hT hF hL s0 s2 s4).mono ?_
  rintro e w' ⟨bo, rfl, hw, hyes⟩
  replace hw := hw.symm
  subst hw
  cases bo
  case false =>
    clear hyes
    go_wp2
    go_ret
    exact ⟨rfl, Below.refl _ _⟩
  obtain ⟨rfl, rfl, rfl, hsh, hlp⟩ := hyes rfl
  have HS : Hid (∀ i, i < n → ShapeAt m T F i) := hsh
  have HLP : Hid (∀ t, t < m → 0 ≤ L t ∧ L t ≤ n) := hlp
  clear hsh hlp
  go_wp2
  go_loopw [12] (fun i wr => ∃ k : Nat, k ≤ n ∧ i = .int .i64 k ∧ (∀ j, j < k → SameTxn T F j) ∧ Below w.heap.size w wr) (fun i _ => n - (intOf i).toNat)
  case atStart => exact ⟨0, Nat.zero_le _, rfl, fun j hj => by omega, Below.refl _ _⟩
  case round =>
    obtain ⟨k, hk, rfl, hall, hbel⟩ := hrel
    have HA : Hid (∀ j, j < k → SameTxn T F j) := hall
    clear hall
    by_cases hlt : k < n
    · obtain ⟨b2, o2, rfl, hb2, hc2⟩ := at_of s2 k hlt
      have g2 := (hbel.cell hb2).trans (hc2.out k hlt)
      obtain ⟨_, _, hnm⟩ := HS.out k hlt
      rcases hnm with hz | ⟨h, hhk, e1, e2⟩
      · have HR : Hid (SameTxn T F k) := by unfold Hid SameTxn; intro h hh; omega
        rw [hz] at g2
        clear hz
        go_wp2
        go_quiet (fail)
        go_wp2
        go_roundw
        case rel => exact ⟨k + 1, by omega, by go_num, upto HA.out HR.out, below_draws hbel _⟩
        case measure => simp [intOf]; omega
      · have d1 : ((h : Int) + 1 != 0) = true := by rw [bne_iff_ne]; omega
        rw [e1] at g2
        obtain ⟨b0, o0, rfl, hb0, hc0⟩ := at_of s0 k hlt
        have g0 := (hbel.cell hb0).trans (hc0.out k hlt)
        have g1 := (hbel.cell hb0).trans (hc0.out h (by omega))
        have hlt' : (k : Int) < (n : Int) := by omega
        have hhl : (h : Int) < (n : Int) := by omega
        by_cases d2 : T k = T h
        · have HR : Hid (SameTxn T F k) := by
            unfold Hid SameTxn; intro h' hh
            have : h' = h := by omega
            rw [this]; exact d2
          rw [d2] at g0
          clear e1 e2 d2
          go_wp2
          go_quiet (fail)
          go_wp2
          go_roundw
          case rel => exact ⟨k + 1, by omega, by go_num, upto HA.out HR.out, below_draws hbel _⟩
          case measure => simp [intOf]; omega
        · have d3 : (T k != T h) = true := by rw [bne_iff_ne]; exact d2
          clear e1 e2 d2
          go_wp2
          go_quiet (fail)
          go_wp2
          go_ret
          exact ⟨rfl, below_draws hbel _⟩
    · have hkn : n = k := by omega
      subst hkn
      have HST : Hid (∀ j, j < n → SameTxn T F j) := HA.out
      clear HA
      go_wp2
      generalize hw1 : wr = w1 at *
      clear hw1
      go_loop [14] (fun i => ∃ t : Nat, t ≤ m ∧ i = .int .i64 t ∧ ∀ j, j < t → EndAt n E L j) (fun i => m - (intOf i).toNat)
      case atStart => exact ⟨0, Nat.zero_le _, rfl, fun j hj => by omega⟩
      case round =>
        obtain ⟨t, ht, rfl, hall⟩ := hrel
        have HA : Hid (∀ j, j < t → EndAt n E L j) := hall
        clear hall
        by_cases htl : t < m
        · obtain ⟨b1, o1, rfl, hb1, hc1⟩ := at_of s1 t htl
          have g1 := (hbel.cell hb1).trans (hc1.out t htl)
          obtain ⟨f1, f2⟩ := hE t
          by_cases d1 : E t = 0
          · have HR : Hid (EndAt n E L t) := .inl d1
            rw [d1] at g1
            clear d1 f1 f2
            go_wp2
            go_round
            case rel => exact ⟨t + 1, by omega, by go_num, upto HA.out HR.out⟩
            case measure => simp [intOf]; omega
          have d1' : (E t != 0) = true := by rw [bne_iff_ne]; exact d1
          by_cases d2 : E t < 1
          · go_wp2
            go_ret
            exact ⟨rfl, hbel⟩
          by_cases d3 : (n : Int) < E t
          · go_wp2
            go_ret
            exact ⟨rfl, hbel⟩
          obtain ⟨x, hx⟩ : ∃ x : Nat, E t = x + 1 := ⟨(E t - 1).toNat, by omega⟩
          have hxn : x < n := by omega
          obtain ⟨b0, o0, rfl, hb0, hc0⟩ := at_of s0 x hxn
          obtain ⟨b2, o2, rfl, hb2, hc2⟩ := at_of s2 x hxn
          obtain ⟨b4, o4, rfl, hb4, hc4⟩ := at_of s4 t htl
          have g0 := (hbel.cell hb0).trans (hc0.out x hxn)
          have g2 := (hbel.cell hb2).trans (hc2.out x hxn)
          have g4 := (hbel.cell hb4).trans (hc4.out t htl)
          rw [hx] at g1
          have k1 : ((x : Int) + 1 != 0) = true := by rw [bne_iff_ne]; omega
          have k2 : decide ((x : Int) + 1 < 1) = false := decide_eq_false (by omega)
          have k3 : decide ((n : Int) < (x : Int) + 1) = false := decide_eq_false (by omega)
          by_cases d4 : T x = t
          case neg =>
            have d4' : (T x != (t : Int)) = true := by rw [bne_iff_ne]; exact d4
            clear d1 d1' d2 d3 hx f1 f2 d4
            go_wp2
            go_ret
            exact ⟨rfl, hbel⟩
          rw [d4] at g0
          by_cases d5 : F x = 0
          case neg =>
            have d5' : (F x != 0) = true := by rw [bne_iff_ne]; exact d5
            clear d1 d1' d2 d3 hx f1 f2 d4 d5
            go_wp2
            go_ret
            exact ⟨rfl, hbel⟩
          rw [d5] at g2
          by_cases d6 : (x : Int) + 1 ≤ L t
          · clear d1 d1' d2 d3 hx f1 f2 d4 d5
            go_wp2
            go_ret
            exact ⟨rfl, hbel⟩
          · have HR : Hid (EndAt n E L t) := .inr ⟨by omega, by omega, by omega⟩
            clear d1 d1' d2 d3 hx f1 f2 d4 d5
            go_wp2
            go_round
            case rel => exact ⟨t + 1, by omega, by go_num, upto HA.out HR.out⟩
            case measure => simp [intOf]; omega
        · have htm : m = t := by omega
          subst htm
          have HEN : Hid (∀ j, j < m → EndAt n E L j) := HA.out
          clear HA
          go_wp2
          go_loop [16] (fun i => ∃ k : Nat, k ≤ n ∧ i = .int .i64 k ∧ ∀ j, j < k → Ahead T F E j) (fun i => n - (intOf i).toNat)
          case atStart => exact ⟨0, Nat.zero_le _, rfl, fun j hj => by omega⟩
          case round =>
            obtain ⟨k, hk, rfl, hall⟩ := hrel
            have HA : Hid (∀ j, j < k → Ahead T F E j) := hall
            clear hall
            by_cases hlt3 : k < n
            · obtain ⟨b2, o2, rfl, hb2, hc2⟩ := at_of s2 k hlt3
              have g2 := (hbel.cell hb2).trans (hc2.out k hlt3)
              obtain ⟨ta, tb, hnm⟩ := HS.out k hlt3
              rcases hnm with hz | ⟨h, hhk, e1, e2⟩
              · have HR : Hid (Ahead T F E k) := by unfold Hid Ahead; intro h hh; omega
                rw [hz] at g2
                clear hz
                go_wp2
                go_round
                case rel => exact ⟨k + 1, by omega, by go_num, upto HA.out HR.out⟩
                case measure => simp [intOf]; omega
              · have k1 : ((h : Int) + 1 != 0) = true := by rw [bne_iff_ne]; omega
                rw [e1] at g2
                obtain ⟨t, ht⟩ : ∃ t : Nat, T k = t := ⟨(T k).toNat, by omega⟩
                have htm : t < m := by omega
                obtain ⟨b0, o0, rfl, hb0, hc0⟩ := at_of s0 k hlt3
                obtain ⟨b1, o1, rfl, hb1, hc1⟩ := at_of s1 t htm
                have g0 := (hbel.cell hb0).trans (hc0.out k hlt3)
                rw [ht] at g0
                have g1 := (hbel.cell hb1).trans (hc1.out t htm)
                by_cases d1 : E t = 0
                · have HR : Hid (Ahead T F E k) := by
                    unfold Hid Ahead; intro h hh t' ht'
                    have : t' = t := by omega
                    rw [this]; exact .inl d1
                  rw [d1] at g1
                  clear e1 e2 ta tb ht d1
                  go_wp2
                  go_round
                  case rel => exact ⟨k + 1, by omega, by go_num, upto HA.out HR.out⟩
                  case measure => simp [intOf]; omega
                have d1' : (E t != 0) = true := by rw [bne_iff_ne]; exact d1
                by_cases d2 : E t ≤ (k : Int) + 1
                · clear e1 e2 ta tb ht d1
                  go_wp2
                  go_ret
                  exact ⟨rfl, hbel⟩
                · have HR : Hid (Ahead T F E k) := by
                    unfold Hid Ahead; intro h hh t' ht'
                    have : t' = t := by omega
                    rw [this]; exact .inr (by omega)
                  clear e1 e2 ta tb ht d1
                  go_wp2
                  go_round
                  case rel => exact ⟨k + 1, by omega, by go_num, upto HA.out HR.out⟩
                  case measure => simp [intOf]; omega
            · have hkn : n = k := by omega
              subst hkn
              have HAH : Hid (∀ j, j < n → Ahead T F E j) := HA.out
              clear HA
              have hTT : Hid (∀ i, i < n → 0 ≤ T i ∧ T i < m) := fun i hi => ⟨(HS.out i hi).1, (HS.out i hi).2.1⟩
              have hFF : Hid (∀ i, i < n → Names F i) := fun i hi => (HS.out i hi).2.2
              have hEE : Hid (∀ t, t < m → 0 ≤ E t ∧ E t ≤ n) := fun t ht => by rcases HEN.out t ht with h | ⟨h, h', _⟩ <;> omega
              clear HS
              go_wp2_with fail
              refine (clone32 a0 n c0 T w1 (by omega) (s0.below hbel)).mono ?_
              rintro e w2 ⟨x0, y0, rfl, z0, hb2⟩
              have hB2 := bstep hbel hb2
              go_wp2_with fail
              refine (clone32 a1 m c1 E w2 (by omega) (s1.below hB2)).mono ?_
              rintro e w3 ⟨x1, y1, rfl, z1, hb3⟩
              have hB3 := bstep hB2 hb3
              replace z0 := z0.below hb3
              clear hb2 hB2
              go_wp2_with fail
              refine (clone32 a2 n c2 F w3 (by omega) (s2.below hB3)).mono ?_
              rintro e w4 ⟨x2, y2, rfl, z2, hb4⟩
              have hB4 := bstep hB3 hb4
              replace z0 := z0.below hb4
              replace z1 := z1.below hb4
              clear hb3 hB3
              go_wp2_with fail
              refine (clone8 a3 n c3 G w4 (by omega) (s3.below hB4)).mono ?_
              rintro e w5 ⟨x3, y3, rfl, z3, hb5⟩
              have hB5 := bstep hB4 hb5
              replace z0 := z0.below hb5
              replace z1 := z1.below hb5
              replace z2 := z2.below hb5
              clear hb4 hB4
              go_wp2_with fail
              refine (clone32 a4 m c4 L w5 (by omega) (s4.below hB5)).mono ?_
              rintro e w6 ⟨x4, y4, rfl, z4, hb6⟩
              have hB6 := bstep hB5 hb6
              replace z0 := z0.below hb6
              replace z1 := z1.below hb6
              replace z2 := z2.below hb6
              replace z3 := z3.below hb6
              clear hb5 hB5 s0 s1 s2 s3 s4
              go_wp2_with fail
              refine (newPlan x0 x1 x2 x3 x4 n y0 m y1 n y2 n y3 m y4 E G w6 (by omega) (by omega) (by omega) z1 z3).mono ?_
              rintro e w7 ⟨p, s, tb, fl, ob, rfl, hP, hb7⟩
              have hB7 := bstep hB6 hb7
              replace z0 := z0.below hb7
              replace z1 := z1.below hb7
              replace z2 := z2.below hb7
              replace z4 := z4.below hb7
              clear hb6 hB6 z3
              go_wp2_with fail
              refine (zkept p s tb fl ob x0 x2 x4 y0 y2 y4 n m T F L E G 0 w7 (by omega) hTT.out hFF.out HLP.out hEE.out hP z0 z2 z4).mono ?_
              rintro e w8 ⟨q0, r0, rfl, k0, hb8⟩
              have hB8 := bstep hB7 hb8
              replace z0 := z0.below hb8
              replace z1 := z1.below hb8
              replace z2 := z2.below hb8
              replace z4 := z4.below hb8
              replace hP := hP.below hb8
              clear hb7 hB7
              go_wp2_with fail
              refine (zkept p s tb fl ob x0 x2 x4 y0 y2 y4 n m T F L E G 1 w8 (by omega) hTT.out hFF.out HLP.out hEE.out hP z0 z2 z4).mono ?_
              rintro e w9 ⟨q1, r1, rfl, k1, hb9⟩
              have hB9 := bstep hB8 hb9
              replace z0 := z0.below hb9
              replace z1 := z1.below hb9
              replace z2 := z2.below hb9
              replace z4 := z4.below hb9
              replace k0 := k0.below hb9
              replace hP := hP.below hb9
              clear hb8 hB8
              go_wp2_with fail
              refine (zkept p s tb fl ob x0 x2 x4 y0 y2 y4 n m T F L E G 2 w9 (by omega) hTT.out hFF.out HLP.out hEE.out hP z0 z2 z4).mono ?_
              rintro e wz ⟨q2, r2, rfl, k2, hb10⟩
              have hBz := bstep hB9 hb10
              replace z0 := z0.below hb10
              replace z1 := z1.below hb10
              replace z2 := z2.below hb10
              replace k0 := k0.below hb10
              replace k1 := k1.below hb10
              clear hb9 hB9 hP hb10 z4 hbel
              go_wp2
              go_loopw [22] (fun i wr => ∃ k : Nat, k ≤ n ∧ i = .int .i64 k ∧ Below w.heap.size w wr ∧ Below wz.heap.size wz wr) (fun i _ => n - (intOf i).toNat)
              case atStart => exact ⟨0, Nat.zero_le _, rfl, hBz, Below.refl _ _⟩
              case round =>
                obtain ⟨k, hk, rfl, hbw, hbz⟩ := hrel
                by_cases hlt4 : k < n
                · obtain ⟨b2, o2, rfl, hb2, hc2⟩ := at_of z2 k hlt4
                  obtain ⟨d0, u0, rfl, he0, hd0⟩ := at_of k0 k hlt4
                  obtain ⟨d1, u1, rfl, he1, hd1⟩ := at_of k1 k hlt4
                  obtain ⟨d2, u2, rfl, he2, hd2⟩ := at_of k2 k hlt4
                  have g2 := (hbz.cell hb2).trans (hc2.out k hlt4)
                  have j0 := (hbz.cell he0).trans (hd0.out k hlt4)
                  have j1 := (hbz.cell he1).trans (hd1.out k hlt4)
                  have j2 := (hbz.cell he2).trans (hd2.out k hlt4)
                  have hlt5 : (k : Int) < (n : Int) := by omega
                  rcases hFF.out k hlt4 with hz | ⟨h, hhk, e1, e2⟩
                  · rw [hz] at g2
                    rw [law_zero _ _ _ _ _ _ _ _ hz] at j0 j1 j2
                    clear hz
                    go_wp2
                    go_roundw
                    case rel => exact ⟨k + 1, by omega, by go_num, hbw, hbz⟩
                    case measure => simp [intOf]; omega
                  · obtain ⟨ta, tb⟩ := hTT.out k hlt4
                    obtain ⟨t, ht⟩ : ∃ t : Nat, T k = t := ⟨(T k).toNat, by omega⟩
                    have htm : t < m := by omega
                    obtain ⟨v0, v1, l0, l1, l2, l3, l4, l5, l6, l7⟩ := law_at n m T F L E (excl G) hTT.out hFF.out HLP.out HST.out HEN.out HAH.out k h t hlt4 e1 ht
                    have j3 := (hbz.cell he0).trans (hd0.out h (by omega))
                    have j4 := (hbz.cell he1).trans (hd1.out h (by omega))
                    rw [l0] at j0
                    rw [l2] at j1
                    rw [l4] at j2
                    rw [l1] at j3
                    rw [l3] at j4
                    rw [e1] at g2
                    obtain ⟨b0, o0, rfl, hb0, hc0⟩ := at_of z0 k hlt4
                    obtain ⟨b1, o1, rfl, hb1, hc1⟩ := at_of z1 t htm
                    have g0 := (hbz.cell hb0).trans (hc0.out k hlt4)
                    rw [ht] at g0
                    have g1 := (hbz.cell hb1).trans (hc1.out t htm)
                    have m1 : ((h : Int) + 1 == 0) = false := beq_eq_false_iff_ne.2 (by omega)
                    have hhn : (h : Int) < (n : Int) := by omega
                    have f1 : decide (v0 ≤ (k : Int) + 1) = false := decide_eq_false (by omega)
                    have f2 : decide (v1 < v0) = false := decide_eq_false (by omega)
                    by_cases z : E t = 0
                    · have z' : hold n (E t) = (n : Int) + 1 := by unfold hold; rw [if_pos z]
                      rw [z'] at j2 l7
                      rw [z] at g1
                      have f3 : decide ((n : Int) + 1 < v1) = false := decide_eq_false (by omega)
                      clear l0 l1 l2 l3 l4 e1 e2 ht z z' ta tb
                      go_wp2
                      go_quiet (fail)
                      go_wp2
                      go_quiet (fail)
                      go_wp2
                      go_roundw
                      case rel => exact ⟨k + 1, by omega, by go_num, below_draws hbw _, below_draws hbz _⟩
                      case measure => simp [intOf]; omega
                    · have z' : hold n (E t) = E t := by unfold hold; rw [if_neg z]
                      rw [z'] at j2 l7
                      have f3 : decide (E t < v1) = false := decide_eq_false (by omega)
                      have f4 : (E t == 0) = false := beq_eq_false_iff_ne.2 z
                      clear l0 l1 l2 l3 l4 e1 e2 ht z z' ta tb
                      go_wp2
                      go_quiet (fail)
                      go_wp2
                      go_quiet (fail)
                      go_wp2
                      go_roundw
                      case rel => exact ⟨k + 1, by omega, by go_num, below_draws hbw _, below_draws hbz _⟩
                      case measure => simp [intOf]; omega
                · have hkn : n = k := by omega
                  subst hkn
                  go_wp2
                  go_ret
                  exact ⟨rfl, hbw⟩
end Go.Proofs.Qxb6603494a.kept
