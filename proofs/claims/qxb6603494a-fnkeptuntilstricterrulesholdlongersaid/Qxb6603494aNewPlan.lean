/-
  THE WALK of ZZnewLockPlan.
-/
import Derived.Test.Qxb6603494aShape
namespace Go.Proofs.Qxb6603494a.kept
open Go.RowKit

/-- 'make([]T, n)', T of whatever size: for every world. -/
theorem run_mk {P : Program} (t e : TypeId) (z : Value) (size bytes : Nat) (ht : P.underlying t = some (.slice e)) (hinfo : (P.info? e).map (fun i => (i.zero, i.size, i.bytes)) = some (some z, size, bytes))
    (n : Nat) (hbytes : bytes * n ≤ 281474976710656) (h63 : n ≤ 9223372036854775807) (w : World) :
    (Instr.makeSlice t (.int .i64 (n : Int)) (.int .i64 (n : Int))).run P w = .ok (.slice (some ⟨w.heap.size, 0, none⟩) n n) (w.alloc (.cells (madeCells z.cells (n * size)) e)) := by
  obtain ⟨i, hi, hzz⟩ := Option.map_eq_some_iff.1 hinfo
  simp only [Prod.mk.injEq] at hzz
  obtain ⟨hz, hs, hb⟩ := hzz
  have hb' : (i.bytes : Int) * (n : Int) ≤ 281474976710656 := by
    rw [hb]
    have h : ((bytes * n : Nat) : Int) ≤ 281474976710656 := by omega
    rwa [Int.natCast_mul] at h
  have hr := run_make (P := P) w t e i z ht hi hz .i64 .i64 n n (by omega) (Int.le_refl _) hb' (by omega)
  simp only [Int.toNat_natCast, hs] at hr
  exact hr

theorem info34 : (Try.prog.info? 34).map (fun i => (i.zero, i.size, i.bytes)) = some (some (.agg #[.int .u32 0, .int .i32 0]), 2, 8) := by kernel_rfl
theorem info36 : (Try.prog.info? 36).map (fun i => (i.zero, i.size, i.bytes)) = some (some (.int .u8 0), 1, 1) := by kernel_rfl
theorem info68 : (Try.prog.info? 68).map (fun i => (i.zero, i.size, i.bytes)) = some (some (.agg #[.int .u8 0, .bool false, .bool false, .int .u32 0, .string ⟨#[]⟩, .int .i64 0, .int .u32 0]), 7, 40) := by kernel_rfl

def opCells (n : Nat) : Array Value := madeCells (Value.agg #[.int .u8 0, .bool false, .bool false, .int .u32 0, .string ⟨#[]⟩, .int .i64 0, .int .u32 0]).cells (n * 7)
def endCells (m : Nat) : Array Value := madeCells (Value.agg #[.int .u32 0, .int .i32 0]).cells (m * 2)

/-- The row of the transactions' ends: its odd cells are the ends of the first k, then zeros. -/
def Ends (w : World) (b m k : Nat) (E : Nat → Int) : Prop :=
  ∃ g : Nat → Int, w.rowIs b 34 (m * 2) (fun j => if j % 2 = 1 then .int .i32 (if j / 2 < k then E (j / 2) else 0) else .int .u32 (g j))

theorem Ends.made (w : World) (m : Nat) (E : Nat → Int) : Ends (w.alloc (.cells (endCells m) 34)) w.heap.size m 0 E := by
  refine ⟨fun _ => 0, endCells m, Go.Deep.blk_alloc_new _ _, size_madeCells _ _, fun i hi => ?_⟩
  have hi' : i < m * 2 := hi
  rcases Nat.mod_two_eq_zero_or_one i with h | h
  · simp [endCells, madeCells, hi', h, Value.cells]
  · simp [endCells, madeCells, hi', h, Value.cells]

theorem Ends.step {w : World} {b m k : Nat} {E : Nat → Int} (x : Int) (h : Ends w b m k E) :
    Ends ((w.setCell ⟨b, k * 2, none⟩ (.int .u32 x)).setCell ⟨b, k * 2 + 1, none⟩ (.int .i32 (E k))) b m (k + 1) E := by
  obtain ⟨g, h⟩ := h
  refine ⟨fun j => if j = k * 2 then x else g j, ((h.set (k * 2) (.int .u32 x)).set (k * 2 + 1) (.int .i32 (E k))).congr fun j hj => ?_⟩
  dsimp only
  by_cases e1 : j = k * 2 + 1
  · subst e1
    rw [if_pos rfl, if_pos (by omega), if_pos (by omega), show (k * 2 + 1) / 2 = k from by omega]
  · rw [if_neg e1]
    by_cases e2 : j = k * 2
    · subst e2
      rw [if_pos rfl, if_neg (by omega), if_pos rfl]
    · rw [if_neg e2, if_neg e2]
      by_cases e3 : j % 2 = 1
      · rw [if_pos e3, if_pos e3]
        by_cases e4 : j / 2 < k
        · rw [if_pos e4, if_pos (by omega)]
        · rw [if_neg e4, if_neg (by omega)]
      · rw [if_neg e3, if_neg e3]

/-- WHAT A LOCK PLAN LEADS TO: the plan's own cells (p), the schedule's (s), the flags (fl), the transactions' ends (t). -/
structure PlanIs (w : World) (p s t fl ob : Nat) (v0 v2 v4 : Value) (n m n3 : Nat) (E G : Nat → Int) : Prop where
  p0 : w.cell? ⟨p, 0, none⟩ = some (.pointer (some ⟨s, 0, none⟩))
  p3 : w.cell? ⟨p, 3, none⟩ = some v2
  p4 : w.cell? ⟨p, 4, none⟩ = some (.slice (some ⟨fl, 0, none⟩) n3 n3)
  p5 : w.cell? ⟨p, 5, none⟩ = some v4
  q0 : w.cell? ⟨s, 0, none⟩ = some (.slice (some ⟨ob, 0, none⟩) n n)
  q1 : w.cell? ⟨s, 1, none⟩ = some (.slice (some ⟨t, 0, none⟩) m m)
  q3 : w.cell? ⟨s, 3, none⟩ = some v0
  fl : ∀ i, i < n3 → w.cell? ⟨fl, i, none⟩ = some (.int .u8 (G i))
  tx : ∀ i, i < m → w.cell? ⟨t, i * 2 + 1, none⟩ = some (.int .i32 (E i))

theorem PlanIs.below {w w' : World} {p s t fl ob : Nat} {v0 v2 v4 : Value} {n m n3 : Nat} {E G : Nat → Int} (h : PlanIs w p s t fl ob v0 v2 v4 n m n3 E G) (hb : Below w.heap.size w w') : PlanIs w' p s t fl ob v0 v2 v4 n m n3 E G :=
  have up : ∀ {a : Addr} {v : Value}, w.cell? a = some v → w'.cell? a = some v := fun h => (hb.cell (World.block_lt_of_cell? _ _ h)).trans h
  ⟨up h.p0, up h.p3, up h.p4, up h.p5, up h.q0, up h.q1, up h.q3, fun i hi => up (h.fl i hi), fun i hi => up (h.tx i hi)⟩

theorem cell_new (w : World) (c : Array Value) (t : TypeId) (i : Nat) : (w.alloc (.cells c t)).cell? ⟨w.heap.size, i, none⟩ = c[i]? := by
  have h := Go.Deep.blk_alloc_new w (.cells c t)
  unfold World.cell?
  simp only [h]
  rfl

theorem cell_old (w : World) (o : Obj) {a : Addr} {v : Value} (h : w.cell? a = some v) : (w.alloc o).cell? a = some v :=
  (((Below.refl w.heap.size w).alloc (Nat.le_refl _) o).cell (World.block_lt_of_cell? _ _ h)).trans h

theorem plan_made (wr : World) (t fl : Nat) (v0 v2 v4 : Value) (n m n3 : Nat) (E G : Nat → Int) (hE : Ends wr t m m E) (hfl : wr.rowIs fl 36 n3 (fun j => .int .u8 (if j < n3 then G j else 0))) :
    PlanIs (((wr.alloc (.cells (opCells n) 68)).alloc (.cells #[.slice (some ⟨wr.heap.size, 0, none⟩) n n, .slice (some ⟨t, 0, none⟩) m m, .pointer none, v0, .slice none 0 0, .pointer none] 42)).alloc
      (.cells #[.pointer (some ⟨wr.heap.size + 1, 0, none⟩), .slice none 0 0, .bool false, v2, .slice (some ⟨fl, 0, none⟩) n3 n3, v4, .pointer none] 45))
      (wr.heap.size + 1 + 1) (wr.heap.size + 1) t fl wr.heap.size v0 v2 v4 n m n3 E G := by
  have e1 : (wr.alloc (.cells (opCells n) 68)).heap.size = wr.heap.size + 1 := Go.Deep.nblk_alloc _ _
  have e2 : ∀ o, ((wr.alloc (.cells (opCells n) 68)).alloc o).heap.size = wr.heap.size + 1 + 1 := fun o => by rw [Go.Deep.nblk_alloc, e1]
  have np : ∀ i o c, (((wr.alloc (.cells (opCells n) 68)).alloc o).alloc (.cells c 45)).cell? ⟨wr.heap.size + 1 + 1, i, none⟩ = c[i]? := fun i o c => by rw [← e2 o]; exact cell_new _ _ _ _
  have ns : ∀ i c v, c[i]? = some v → ∀ o, (((wr.alloc (.cells (opCells n) 68)).alloc (.cells c 42)).alloc o).cell? ⟨wr.heap.size + 1, i, none⟩ = some v := fun i c v h o => by
    refine cell_old _ _ ?_
    rw [← e1, cell_new, h]
  obtain ⟨g, hE⟩ := hE
  refine ⟨np _ _ _, np _ _ _, np _ _ _, np _ _ _, ns _ _ _ rfl _, ns _ _ _ rfl _, ns _ _ _ rfl _, fun i hi => ?_, fun i hi => ?_⟩
  · refine cell_old _ _ (cell_old _ _ (cell_old _ _ ?_))
    have := hfl.cell hi
    rw [if_pos hi] at this
    exact this
  · refine cell_old _ _ (cell_old _ _ (cell_old _ _ ?_))
    have := hE.cell (i := i * 2 + 1) (by omega)
    rw [if_pos (by omega), if_pos (by omega), show (i * 2 + 1) / 2 = i from by omega] at this
    exact this

/-- WHAT ZZnewLockPlan ANSWERS. -/
def PlanSaid (v0 v2 v4 : Value) (n m n3 : Nat) (E G : Nat → Int) (w : World) (e : Ending) (w' : World) : Prop :=
  ∃ p s t fl ob : Nat, e = .returned (.pointer (some ⟨p, 0, none⟩)) ∧ PlanIs w' p s t fl ob v0 v2 v4 n m n3 E G ∧ Below w.heap.size w w'

set_option maxHeartbeats 2000000 in
theorem newPlan (a0 a1 a2 a3 a4 : Option Addr) (n c0 m c1 n2 c2 n3 c3 m4 c4 : Nat) (E G : Nat → Int) (w : World)
    (hn : n ≤ 1048576) (hm : m ≤ 1048576) (hn3 : n3 ≤ 1048576) (s1 : Sl .i32 w a1 m E) (s3 : Sl .u8 w a3 n3 G) :
    Calls Try.prog 8 #[.slice a0 n c0, .slice a1 m c1, .slice a2 n2 c2, .slice a3 n3 c3, .slice a4 m4 c4] w (PlanSaid (.slice a0 n c0) (.slice a2 n2 c2) (.slice a4 m4 c4) n m n3 E G w) := by
  have mk30 : ∀ w : World, (Instr.makeSlice 30 (.int .i64 (m : Int)) (.int .i64 (m : Int))).run Try.prog w = .ok (.slice (some ⟨w.heap.size, 0, none⟩) m m) (w.alloc (.cells (endCells m) 34)) :=
    run_mk (P := Try.prog) 30 34 _ 2 8 Try.underlying30 info34 m (by omega) (by omega)
  have mk35 := run_make_row' (P := Try.prog) 35 36 (.int .u8 0) 1 Try.underlying35 info36 rfl .i64 .i64 n3 (by omega) (by omega)
  have mk38 : ∀ w : World, (Instr.makeSlice 38 (.int .i64 (n : Int)) (.int .i64 (n : Int))).run Try.prog w = .ok (.slice (some ⟨w.heap.size, 0, none⟩) n n) (w.alloc (.cells (opCells n) 68)) :=
    run_mk (P := Try.prog) 38 68 _ 7 40 Try.underlying38 info68 n (by omega) (by omega)
  go_enter Try.func8, Try.ntmps8
  go_wp2
  go_loopw [12] (fun i wr => ∃ k : Nat, k ≤ m ∧ i = .int .i64 k ∧ Ends wr w.heap.size m k E ∧ Below w.heap.size w wr) (fun i _ => m - (intOf i).toNat)
  case atStart => exact ⟨0, Nat.zero_le _, rfl, Ends.made w m E, (Below.refl _ _).alloc (Nat.le_refl _) _⟩
  case round =>
    obtain ⟨k, hk, rfl, ⟨g, hrow⟩, hbel⟩ := hrel
    by_cases hlt : k < m
    · obtain ⟨b1, o1, rfl, hb1, hc1⟩ := at_of s1 k hlt
      have g1 : wr.cell? ⟨b1, o1 + k, none⟩ = some (.int .i32 (E k)) := (hbel.cell hb1).trans (hc1.out k hlt)
      have y0 : wr.cell? ⟨w.heap.size, k * 2, none⟩ = some (.int .u32 (g (k * 2))) := by
        have := hrow.cell (i := k * 2) (by omega); rw [if_neg (by omega)] at this; exact this
      have y1 : wr.cell? ⟨w.heap.size, k * 2 + 1, none⟩ = some (.int .i32 0) := by
        have := hrow.cell (i := k * 2 + 1) (by omega)
        rw [if_pos (by omega), if_neg (by omega)] at this; exact this
      have f0 := hrow.frozen (k * 2)
      have f1 := hrow.frozen (k * 2 + 1)
      go_wp2
      go_roundw
      case rel => exact ⟨k + 1, by omega, by go_num, Ends.step _ ⟨g, hrow⟩, (hbel.setCell (Nat.le_refl _) _).setCell (Nat.le_refl _) _⟩
      case measure => simp [intOf]; omega
    · have hkm : k = m := by omega
      subst hkm
      go_wp2
      generalize hw1 : wr = w1 at *
      clear hw1
      go_loopw [14] (fun i wr => ∃ q : Nat, q ≤ n3 ∧ i = .int .i64 q ∧ wr.rowIs w1.heap.size 36 n3 (fun j => .int .u8 (if j < q then G j else 0)) ∧ Below w1.heap.size w1 wr) (fun i _ => n3 - (intOf i).toNat)
      case atStart => exact ⟨0, Nat.zero_le _, rfl, by simpa using World.rowIs_made w1 (.int .u8 0) n3 36, (Below.refl _ _).alloc (Nat.le_refl _) _⟩
      case round =>
        obtain ⟨q, hq, rfl, hrow2, hbel2⟩ := hrel
        by_cases hlt2 : q < n3
        · obtain ⟨b3, o3, rfl, hb3, hc3⟩ := at_of s3 q hlt2
          have g3 : wr.cell? ⟨b3, o3 + q, none⟩ = some (.int .u8 (G q)) := ((bstep hbel hbel2).cell hb3).trans (hc3.out q hlt2)
          have y0 := hrow2.cell hlt2
          have f0 := hrow2.frozen q
          go_wp2
          go_roundw
          case rel => exact ⟨q + 1, by omega, by go_num, (hrow2.set q (.int .u8 (G q))).congr (by intro j hj; by_cases h : j = q <;> simp [h] <;> (try split) <;> (try split) <;> first | rfl | omega), hbel2.setCell (Nat.le_refl _) _⟩
          case measure => simp [intOf]; omega
        · have hqn : q = n3 := by omega
          subst hqn
          go_wp2
          go_ret
          exact ⟨_, _, _, _, _, rfl, plan_made wr _ _ _ _ _ _ _ _ _ _ ⟨g, hrow.of_block (hbel2.block _ hrow.lt)⟩ hrow2, (((bstep hbel hbel2).alloc (bstep hbel hbel2).size _).alloc (by have := (bstep hbel hbel2).size; simp; omega) _).alloc (by have := (bstep hbel hbel2).size; simp; omega) _⟩
end Go.Proofs.Qxb6603494a.kept
