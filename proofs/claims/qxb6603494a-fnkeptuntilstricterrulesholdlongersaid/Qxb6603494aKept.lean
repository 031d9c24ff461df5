/-
  THE WALK of keptUntil.
-/
import Derived.Test.Qxb6603494aHolds
namespace Go.Proofs.Qxb6603494a.kept
open Go.RowKit

theorem hide {p : Prop} (h : p) : Hid p := h
theorem unhide {p : Prop} (h : Hid p) : p := h

theorem below_draws {B : Nat} {a w : World} (h : Below B a w) (n : Nat) : Below B a (w.drewN n) := h.trans ⟨rfl, rfl, rfl, Nat.le_refl _, fun _ _ => rfl⟩

/-- WHAT keptUntil ANSWERS: n numbers in new memory. -/
def KeptSaid (n : Nat) (V : Nat → Int) (w : World) (e : Ending) (w' : World) : Prop :=
  ∃ a c, e = .returned (.slice a n c) ∧ Sl .i32 w' a n V ∧ Below w.heap.size w w'

/-- The exclusive bit, as the walk writes it. -/
def excl (G : Nat → Int) (i : Nat) : Bool := bits BinOp.and IntKind.u8 (G i) 8 != 0

/-- The second loop's row: the first k numbers are final, the others as the first loop left them. -/
def mid (k : Nat) (V U : Nat → Int) (j : Nat) : Int := if j < k then V j else U j
theorem mid_lt {k j : Nat} {V U : Nat → Int} (h : j < k) : mid k V U j = V j := if_pos h
theorem mid_at {k : Nat} {V U : Nat → Int} : mid k V U k = U k := if_neg (Nat.lt_irrefl k)
theorem mid_skip {k : Nat} {V U : Nat → Int} (h : V k = U k) (j : Nat) : mid k V U j = mid (k + 1) V U j := by
  unfold mid
  by_cases e : j = k
  · subst e; rw [if_neg (Nat.lt_irrefl _), if_pos (Nat.lt_succ_self _), h]
  · by_cases e2 : j < k
    · rw [if_pos e2, if_pos (by omega)]
    · rw [if_neg e2, if_neg (by omega)]
theorem mid_set {k : Nat} {V U : Nat → Int} {v : Int} (h : V k = v) (j : Nat) : (if j = k then Value.int .i32 v else Value.int .i32 (mid k V U j)) = Value.int .i32 (mid (k + 1) V U j) := by
  unfold mid
  by_cases e : j = k
  · subst e; rw [if_pos rfl, if_pos (Nat.lt_succ_self _), h]
  · rw [if_neg e]
    by_cases e2 : j < k
    · rw [if_pos e2, if_pos (by omega)]
    · rw [if_neg e2, if_neg (by omega)]

set_option maxRecDepth 100000 in
set_option maxHeartbeats 4000000 in
theorem kept (p s tb fl ob : Nat) (a0 a2 a4 : Option Addr) (c0 c2 c4 n m : Nat) (T F L E G : Nat → Int) (r : Int) (w : World) (hn : n ≤ 1048576)
    (hT : ∀ i, i < n → 0 ≤ T i ∧ T i < m) (hF : ∀ i, i < n → Names F i) (hL : ∀ t, t < m → 0 ≤ L t ∧ L t ≤ n) (hE : ∀ t, t < m → 0 ≤ E t ∧ E t ≤ n)
    (hP : PlanIs w p s tb fl ob (.slice a0 n c0) (.slice a2 n c2) (.slice a4 m c4) n m n E G) (s0 : Sl .i32 w a0 n T) (s2 : Sl .i32 w a2 n F) (s4 : Sl .i32 w a4 m L) :
    Calls Try.prog 10 #[.pointer (some ⟨p, 0, none⟩), .int .u8 r] w (KeptSaid n (untilV n T F L E (excl G) r) w) := by
  have mk22 := run_make_row' (P := Try.prog) 22 21 (.int .i32 0) 4 Try.underlying22 info21 rfl .i64 .i64 n (by omega) (by omega)
  have HT := hide hT; clear hT
  have HF := hide hF; clear hF
  have HL := hide hL; clear hL
  have HE := hide hE; clear hE
  have p0 := hP.p0
  have p3 := hP.p3
  have q0 := hP.q0
  have z0 : ∀ o, (w.alloc o).cell? ⟨p, 3, none⟩ = some (.slice a2 n c2) := fun o => cell_old w o p3
  go_enter Try.func10, Try.ntmps10
  go_wp2
  go_loopw [24] (fun i wr => ∃ k : Nat, k ≤ n ∧ i = .int .i64 k ∧ wr.rowIs w.heap.size 21 n (fun j => .int .i32 (lastTo F k j)) ∧ Below w.heap.size w wr) (fun i _ => n - (intOf i).toNat)
  case atStart => exact ⟨0, Nat.zero_le _, rfl, World.rowIs_made w (.int .i32 0) n 21, (Below.refl _ _).alloc (Nat.le_refl _) _⟩
  case round =>
    obtain ⟨k, hk, rfl, hrow, hbel⟩ := hrel
    clear p0 p3 q0 z0
    by_cases hlt : k < n
    · obtain ⟨b2, o2, rfl, hb2, hc2⟩ := at_of s2 k hlt
      have g2 := (hbel.cell hb2).trans (hc2.out k hlt)
      rcases unhide HF k hlt with hz | ⟨h, hhk, e1, e2⟩
      · have HR : Hid (F k = 0) := hz
        rw [hz] at g2
        clear hz
        go_wp2
        go_roundw
        case rel => exact ⟨k + 1, by omega, by go_num, hrow.congr (fun j _ => by rw [lastTo_skip F k j HR.out]), hbel⟩
        case measure => simp [intOf]; omega
      · have HR : Hid (F k = h + 1) := e1
        rw [e1] at g2
        clear e1 e2
        have d1 : ((h : Int) + 1 != 0) = true := by rw [bne_iff_ne]; omega
        have y0 := hrow.cell (i := h) (by omega)
        have f0 := hrow.frozen h
        go_wp2
        go_roundw
        case rel => exact ⟨k + 1, by omega, by go_num, (hrow.set h (.int .i32 ((k : Int) + 1))).congr (fun j _ => by rw [lastTo_hit F k j h HR.out]; split <;> rfl), hbel.setCell (Nat.le_refl _) _⟩
        case measure => simp [intOf]; omega
    · have hkn : n = k := by omega
      subst hkn
      have p3 := (hP.below hbel).p3
      go_wp2
      clear p3
      go_loopw [44] (fun i wr => ∃ k : Nat, k ≤ n ∧ i = .int .i64 k ∧ wr.rowIs w.heap.size 21 n (fun j => .int .i32 (mid k (untilV n T F L E (excl G) r) (lastTo F n) j)) ∧ Below w.heap.size w wr) (fun i _ => n - (intOf i).toNat)
      case atStart => exact ⟨0, Nat.zero_le _, rfl, hrow, hbel⟩
      case round =>
        clear hrow hbel
        obtain ⟨k, hk, rfl, hrow, hbel⟩ := hrel
        by_cases hlt2 : k < n
        · obtain ⟨b2, o2, rfl, hb2, hc2⟩ := at_of s2 k hlt2
          have g2 := (hbel.cell hb2).trans (hc2.out k hlt2)
          rcases unhide HF k hlt2 with hz | ⟨h, hhk, e1, e2⟩
          · have HR : Hid (untilV n T F L E (excl G) r k = lastTo F n k) := by
              unfold Hid untilV; rw [if_pos hz, lastTo_none F n n k (Nat.le_refl _) (unhide HF) hz]
            rw [hz] at g2
            clear hz
            go_wp2
            go_roundw
            case rel => exact ⟨k + 1, by omega, by go_num, hrow.congr (fun j _ => by rw [mid_skip HR.out j]), hbel⟩
            case measure => simp [intOf]; omega
          · have d1 : ((h : Int) + 1 == 0) = false := beq_eq_false_iff_ne.2 (by omega)
            rw [e1] at g2
            by_cases hh : h = k
            · subst hh
              obtain ⟨t1, t2⟩ := unhide HT h hlt2
              obtain ⟨t, ht⟩ : ∃ t : Nat, T h = t := ⟨(T h).toNat, by omega⟩
              obtain ⟨b0, o0, rfl, hb0, hc0⟩ := at_of s0 h hlt2
              obtain ⟨b4, o4, rfl, hb4, hc4⟩ := at_of s4 t (by omega)
              have g0 := (hbel.cell hb0).trans (hc0.out h hlt2)
              have g4 := (hbel.cell hb4).trans (hc4.out t (by omega))
              rw [ht] at g0
              obtain ⟨l1, l2⟩ := unhide HL t (by omega)
              obtain ⟨k1, k2⟩ := unhide HE t (by omega)
              obtain ⟨u1, u2⟩ := lastTo_bd F n h
              have hP2 := hP.below hbel
              have p0 := hP2.p0
              have p4 := hP2.p4
              have p5 := hP2.p5
              have q0 := hP2.q0
              have q1 := hP2.q1
              have q3 := hP2.q3
              have gf := hP2.fl h hlt2
              have gt := hP2.tx t (by omega)
              have y1 := hrow.cell (i := h) hlt2
              rw [mid_at] at y1
              have f1 := hrow.frozen h
              have htm : t < m := by omega
              have htm' : (t : Int) < (m : Int) := by omega
              have hlt3 : (h : Int) < (n : Int) := by omega
              cases hl : letsB r (excl G h) with
              | true =>
                have HV : Hid (untilV n T F L E (excl G) r h = max (lastTo F n h) (L t) + 1) := by
                  unfold Hid; rw [untilV_name _ _ _ _ _ _ _ _ h e1]; unfold nameVal; rw [if_pos hl, ht, Int.toNat_natCast]
                have hl' : letsB r (bits BinOp.and IntKind.u8 (G h) 8 != 0) = true := hl
                clear e1 e2 hP2 t1 t2 ht hl
                go_wp2_with (go_at_call 11; refine (lets r _ _).mono ?_; rintro e w' ⟨rfl, hw⟩; replace hw := hw.symm; subst hw)
                go_region
                go_wp2
                go_roundw
                case rel => exact ⟨h + 1, by omega, by go_num, ((hrow.set h _).congr (fun j _ => mid_set (HV.out.trans (by rw [Int.max_def]; split <;> split <;> omega)) j)).drew, (hbel.setCell (Nat.le_refl _) _).drew⟩
                case measure => simp [intOf]; omega
              | false =>
                have HV : Hid (untilV n T F L E (excl G) r h = hold n (E t)) := by
                  unfold Hid; rw [untilV_name _ _ _ _ _ _ _ _ h e1]; unfold nameVal; rw [if_neg (by rw [hl]; exact Bool.false_ne_true), ht, Int.toNat_natCast]
                have hl' : letsB r (bits BinOp.and IntKind.u8 (G h) 8 != 0) = false := hl
                have hv1 : 0 ≤ hold n (E t) := by unfold hold; split <;> omega
                have hv2 : hold n (E t) ≤ 1048577 := by unfold hold; split <;> omega
                clear e1 e2 hP2 t1 t2 ht hl
                go_wp2_with (first | (go_at_call 11; refine (lets r _ _).mono ?_; rintro e w' ⟨rfl, hw⟩; replace hw := hw.symm; subst hw) | (go_at_call 12; refine (holds s b0 o0 c0 n m tb ob h t (E t) _ hn hlt2 htm ⟨by omega, by omega⟩ q0 q1 q3 g0 gt).mono ?_; rintro e w' ⟨rfl, nq, hw⟩; subst hw))
                go_roundw
                case rel => exact ⟨h + 1, by omega, by go_num, ((hrow.of_block (w' := wr.drewN nq) rfl).set h _).congr (fun j _ => mid_set HV.out j), (below_draws hbel nq).setCell (Nat.le_refl _) _⟩
                case measure => simp [intOf]; omega
            · have HR : Hid (untilV n T F L E (excl G) r k = untilV n T F L E (excl G) r h) := by
                unfold Hid; rw [untilV_name _ _ _ _ _ _ _ _ h e1, untilV_name _ _ _ _ _ _ _ _ h e2]
              have d2 : ((h : Int) + 1 != (k : Int) + 1) = true := by rw [bne_iff_ne]; omega
              have y0 := hrow.cell (i := h) (by omega)
              rw [mid_lt (by omega)] at y0
              have y1 := hrow.cell (i := k) hlt2
              have f1 := hrow.frozen k
              clear e1 e2
              go_wp2
              go_roundw
              case rel => exact ⟨k + 1, by omega, by go_num, (hrow.set k _).congr (fun j _ => mid_set HR.out j), hbel.setCell (Nat.le_refl _) _⟩
              case measure => simp [intOf]; omega
        · have hkn : n = k := by omega
          subst hkn
          go_wp2
          go_ret
          exact ⟨_, _, rfl, (Sl.row hrow).congr (fun i hi => mid_lt hi), hbel⟩

/-- ZZkeptUntil: it hands on. -/
theorem zkept (p s tb fl ob : Nat) (a0 a2 a4 : Option Addr) (c0 c2 c4 n m : Nat) (T F L E G : Nat → Int) (r : Int) (w : World) (hn : n ≤ 1048576)
    (hT : ∀ i, i < n → 0 ≤ T i ∧ T i < m) (hF : ∀ i, i < n → Names F i) (hL : ∀ t, t < m → 0 ≤ L t ∧ L t ≤ n) (hE : ∀ t, t < m → 0 ≤ E t ∧ E t ≤ n)
    (hP : PlanIs w p s tb fl ob (.slice a0 n c0) (.slice a2 n c2) (.slice a4 m c4) n m n E G) (s0 : Sl .i32 w a0 n T) (s2 : Sl .i32 w a2 n F) (s4 : Sl .i32 w a4 m L) :
    Calls Try.prog 9 #[.pointer (some ⟨p, 0, none⟩), .int .u8 r] w (KeptSaid n (untilV n T F L E (excl G) r) w) := by
  have HC := hide (kept p s tb fl ob a0 a2 a4 c0 c2 c4 n m T F L E G r w hn hT hF hL hE hP s0 s2 s4)
  clear hT hF hL hE
  go_enter Try.func9, Try.ntmps9
  go_wp2_with fail
  refine (unhide HC).mono ?_
  rintro e w' ⟨a, c, rfl, hs, hb⟩
  go_wp2
  go_ret
  exact ⟨_, _, rfl, hs, hb⟩
end Go.Proofs.Qxb6603494a.kept
