/-
  THE WALK of mappingOf.
-/
import Derived.Test.Qxb6603575aNodes
namespace Go.Proofs.Qxb6603575a.val
open Go.RowKit

/-- The items so far: key, value, key, value .. -/
def Items (w : World) (ib k : Nat) (xs : List Value) (K : Nat → ByteArray) (P : Nat → Addr) : Prop :=
  ∀ j, j < k → ∃ q, xs[2 * j]? = some (.pointer (some ⟨q, 0, none⟩)) ∧ xs[2 * j + 1]? = some (.pointer (some (P j))) ∧ KeyAt w ib q (K j)

theorem Items.step {w w' : World} {ib k q : Nat} {xs : List Value} {K : Nat → ByteArray} {P : Nat → Addr} (hl : xs.length = 2 * k) (h : Items w ib k xs K P) (hq : KeyAt w' ib q (K k))
    (up : ∀ (b o : Nat) (v : Value), b ≠ ib → w.cell? ⟨b, o, none⟩ = some v → w'.cell? ⟨b, o, none⟩ = some v) :
    Items w' ib (k + 1) (xs ++ [.pointer (some ⟨q, 0, none⟩), .pointer (some (P k))]) K P := by
  intro j hj
  by_cases e : j = k
  · subst e
    refine ⟨q, ?_, ?_, hq⟩
    · rw [List.getElem?_append_right (by omega), hl]; simp
    · rw [List.getElem?_append_right (by omega), hl, show 2 * j + 1 - 2 * j = 1 from by omega]; rfl
  · obtain ⟨q', h1, h2, h3⟩ := h j (by omega)
    exact ⟨q', by rw [List.getElem?_append_left (by omega)]; exact h1, by rw [List.getElem?_append_left (by omega)]; exact h2, h3.kept up⟩

theorem cell_old (w : World) (o : Obj) {a : Addr} {v : Value} (h : w.cell? a = some v) : (w.alloc o).cell? a = some v :=
  (((Below.refl w.heap.size w).alloc (Nat.le_refl _) o).cell (World.block_lt_of_cell? _ _ h)).trans h

/-- The mapping's node (block mp) leads to n keys and values. -/
def MapIs (w : World) (mp n : Nat) (K : Nat → ByteArray) (P : Nat → Addr) : Prop :=
  ∃ ib, w.cell? ⟨mp, 6, none⟩ = some (.slice (some ⟨ib, 0, none⟩) (2 * n) (2 * n)) ∧
    Hid (∀ j, j < n → ∃ q, w.cell? ⟨ib, 2 * j, none⟩ = some (.pointer (some ⟨q, 0, none⟩)) ∧ w.cell? ⟨ib, 2 * j + 1, none⟩ = some (.pointer (some (P j))) ∧ KeyAt w ib q (K j))

theorem MapIs.below {w w' : World} {mp n : Nat} {K : Nat → ByteArray} {P : Nat → Addr} (h : MapIs w mp n K P) (hb : Below w.heap.size w w') : MapIs w' mp n K P := by
  have up : ∀ {a : Addr} {v : Value}, w.cell? a = some v → w'.cell? a = some v := fun h => (hb.cell (World.block_lt_of_cell? _ _ h)).trans h
  obtain ⟨ib, h1, h2⟩ := h
  refine ⟨ib, up h1, hide fun j hj => ?_⟩
  obtain ⟨q, e1, e2, e3⟩ := unhide h2 j hj
  exact ⟨q, up e1, up e2, e3.below hb⟩

def MapSaid (n : Nat) (K : Nat → ByteArray) (P : Nat → Addr) (w : World) (e : Ending) (w' : World) : Prop :=
  ∃ mp, e = .returned (.pointer (some ⟨mp, 0, none⟩)) ∧ MapIs w' mp n K P ∧ Below w.heap.size w w'

theorem cell_new (w : World) (c : Array Value) (t : TypeId) (i : Nat) : (w.alloc (.cells c t)).cell? ⟨w.heap.size, i, none⟩ = c[i]? := by
  have h := Go.Deep.blk_alloc_new w (.cells c t)
  unfold World.cell?
  simp only [h]
  rfl

theorem two_at (w : World) (a b : Value) (t : TypeId) (m : Nat) (hm : m = w.heap.size) : ∀ j u, [a, b][j]? = some u → (w.alloc (.cells #[a, b] t)).cell? ((⟨m, 0, none⟩ : Addr).add j) = some u := by
  subst hm
  intro j u hj
  rw [WideShapes.add_plain, Nat.zero_add, cell_new]
  match j, hj with
  | 0, hj => exact hj
  | 1, hj => exact hj

theorem two_one (a b : Addr) : ∀ u ∈ [Value.pointer (some a), Value.pointer (some b)], u.oneCell' = true := by
  intro u hu
  simp at hu
  rcases hu with rfl | rfl <;> rfl

theorem grow_cell {w w' : World} {ib b o : Nat} {v : Value} (hg : w.grownBy w' (some ib)) (hb : b ≠ ib) (h : w.cell? ⟨b, o, none⟩ = some v) : w'.cell? ⟨b, o, none⟩ = some v :=
  (World.cell?_of_block (hg.block b (World.block_lt_of_cell? w _ h) (by intro e; exact hb (Option.some.inj e)))).trans h

/-- A scalar's node. -/
def scal (s : ByteArray) (l : Int) : Array Value := #[.int .u8 1, .bool false, .bool false, .int .i64 l, .string s, .string ⟨#[]⟩, .slice none 0 0, .pointer none]
/-- An alias's node. -/
def alia (s : ByteArray) (l : Int) (q : Nat) : Array Value := #[.int .u8 4, .bool false, .bool false, .int .i64 l, .string s, .string ⟨#[]⟩, .slice none 0 0, .pointer (some ⟨q, 0, none⟩)]

/-- A ROUND, the key a plain scalar. -/
theorem round_scal {wr w1 : World} {ib k : Nat} {xs : List Value} {K : Nat → ByteArray} {P : Nat → Addr} {l : Int} {pr : Array Value} (hl : xs.length = 2 * k) (hib : ib < wr.heap.size) (h : Items wr ib k xs K P)
    (hg : ((wr.alloc (.cells (scal (K k) l) 34)).alloc (.cells pr 26)).grownBy w1 (some ib)) :
    Items w1 ib (k + 1) (xs ++ [.pointer (some ⟨wr.heap.size, 0, none⟩), .pointer (some (P k))]) K P := by
  have hne : wr.heap.size ≠ ib := by omega
  refine h.step hl ⟨hne, .inl ⟨grow_cell hg hne (cell_old _ _ (cell_new _ _ _ _)), grow_cell hg hne (cell_old _ _ (cell_new _ _ _ _))⟩⟩ fun b o v hb hv => grow_cell hg hb (cell_old _ _ (cell_old _ _ hv))

/-- A ROUND, the key an alias. -/
theorem round_alia {wr w1 : World} {ib k : Nat} {xs : List Value} {K : Nat → ByteArray} {P : Nat → Addr} {s : ByteArray} {l l' : Int} {pr : Array Value} (hl : xs.length = 2 * k) (hib : ib < wr.heap.size) (h : Items wr ib k xs K P)
    (hg : (((wr.alloc (.cells (scal (K k) l) 34)).alloc (.cells (alia s l' wr.heap.size) 34)).alloc (.cells pr 26)).grownBy w1 (some ib)) :
    Items w1 ib (k + 1) (xs ++ [.pointer (some ⟨wr.heap.size + 1, 0, none⟩), .pointer (some (P k))]) K P := by
  have hne : wr.heap.size ≠ ib := by omega
  have hne' : wr.heap.size + 1 ≠ ib := by omega
  have e1 : (wr.alloc (.cells (scal (K k) l) 34)).heap.size = wr.heap.size + 1 := Go.Deep.nblk_alloc _ _
  have na : ∀ i, ((wr.alloc (.cells (scal (K k) l) 34)).alloc (.cells (alia s l' wr.heap.size) 34)).cell? ⟨wr.heap.size + 1, i, none⟩ = (alia s l' wr.heap.size)[i]? := fun i => by rw [← e1]; exact cell_new _ _ _ _
  refine h.step hl ⟨hne', .inr ⟨wr.heap.size, hne, grow_cell hg hne' (cell_old _ _ (na 0)), grow_cell hg hne' (cell_old _ _ (na 7)), grow_cell hg hne (cell_old _ _ (cell_old _ _ (cell_new _ _ _ _)))⟩⟩
    fun b o v hb hv => grow_cell hg hb (cell_old _ _ (cell_old _ _ (cell_old _ _ hv)))

theorem own_lt {w : World} {base : Nat} {ib n cap : Nat} {xs : List Value} (h : w.ownsRow base 26 1 (.slice (some ⟨ib, 0, none⟩) n cap) n xs) : xs.length = n ∧ ib < w.heap.size := by
  obtain ⟨h1, h2⟩ := h
  refine ⟨by simpa using h1, ?_⟩
  rcases h2 with ⟨h, _⟩ | ⟨g, c, cur, hv, _, hh, _⟩
  · cases h
  · cases hv
    obtain ⟨hlt, _⟩ := Array.getElem?_eq_some_iff.1 hh
    exact hlt

/-- The whole. -/
theorem map_done {w : World} {ib n : Nat} {xs : List Value} {K : Nat → ByteArray} {P : Nat → Addr} (ho : w.ownsRow ib 26 1 (.slice (some ⟨ib, 0, none⟩) (2 * n) (2 * n)) (2 * n) xs) (h : Items w ib n xs K P) (x0 x1 x2 x3 x4 x5 x7 : Value) :
    MapIs (w.alloc (.cells #[x0, x1, x2, x3, x4, x5, .slice (some ⟨ib, 0, none⟩) (2 * n) (2 * n), x7] 34)) w.heap.size n K P := by
  refine ⟨ib, cell_new _ _ _ _, hide fun j hj => ?_⟩
  obtain ⟨h1, h2⟩ := ho
  rcases h2 with ⟨h, _⟩ | ⟨g, c, cur, hv, _, hh, hle, _, hsz, htk⟩
  · cases h
  · cases hv
    have hat : ∀ i v, xs[i]? = some v → w.cell? ⟨ib, i, none⟩ = some v := fun i v hx => by
      have hi : i < 2 * n := by have := (List.getElem?_eq_some_iff.1 hx).1; omega
      have : cur[i]? = some v := by
        rw [← htk, List.getElem?_take_of_lt (by omega)] at hx
        simpa using hx
      unfold World.cell?
      simp only [hh]
      exact this
    obtain ⟨q, e1, e2, e3⟩ := h j hj
    exact ⟨q, cell_old _ _ (hat _ _ e1), cell_old _ _ (hat _ _ e2), e3.kept fun _ _ _ _ hv => cell_old _ _ hv⟩

set_option maxHeartbeats 2000000 in
theorem mapping (a : Option Addr) (n c vb : Nat) (al : Bool) (K : Nat → ByteArray) (A : Nat → Bool) (M V : Nat → ByteArray) (P : Nat → Addr) (w : World) (hn : n ≤ 65536) (hs : Ent w a n K A M V) (hv : Ptrs w vb n P) :
    Calls Try.prog 11 #[.slice a n c, .slice (some ⟨vb, 0, none⟩) n n, .bool al] w (MapSaid n K P w) := by
  have mk24 : ∀ w : World, (Instr.makeSlice 24 (.int .i64 0) (.int .i64 (2 * (n : Int)))).run Try.prog w = .ok (.slice (some ⟨w.heap.size, 0, none⟩) 0 (2 * n)) (w.alloc (.cells (madeCells #[.pointer none] (2 * n)) 26)) := by
    intro w
    obtain ⟨i, hi, hzz⟩ := Option.map_eq_some_iff.1 info26
    simp only [Prod.mk.injEq] at hzz
    obtain ⟨hz, hs, hb⟩ := hzz
    have hr := run_make (P := Try.prog) w 24 26 i _ Try.underlying24 hi hz .i64 .i64 0 (2 * (n : Int)) (by omega) (by omega) (by rw [hb]; omega) (by omega)
    rw [hs, Nat.mul_one, show (2 * (n : Int)).toNat = 2 * n from by omega] at hr
    exact hr
  obtain ⟨i0, hi, hz0, hz1, hz2⟩ := info_parts info26
  have HV : Hid (Ptrs w vb n P) := hv
  clear hv
  go_enter Try.func11, Try.ntmps11
  go_wp2
  go_loopw [7, 8] (fun v i wr => ∃ k : Nat, k ≤ n ∧ i = .int .i64 k ∧ v = .slice (some ⟨w.heap.size, 0, none⟩) (2 * k) (2 * n) ∧
      (∃ xs, wr.ownsRow w.heap.size 26 1 (.slice (some ⟨w.heap.size, 0, none⟩) (2 * k) (2 * n)) (2 * k) xs ∧ Items wr w.heap.size k xs K P) ∧ Below w.heap.size w wr) (fun _ i _ => n - (intOf i).toNat)
  case atStart =>
    refine ⟨0, Nat.zero_le _, rfl, rfl, ⟨[], ⟨rfl, .inr ⟨_, _, _, rfl, Nat.le_refl _, Go.Deep.blk_alloc_new _ _, Nat.zero_le _, by unfold maxLen; omega, by rw [size_madeCells]; omega, by simp⟩⟩, fun j hj => by omega⟩, (Below.refl _ _).alloc (Nat.le_refl _) _⟩
  case round =>
    obtain ⟨k, hk, rfl, rfl, ⟨xs, hown, hit⟩, hbel⟩ := hrel
    have HI : Hid (Items wr w.heap.size k xs K P) := hit
    clear hit
    by_cases hlt : k < n
    · obtain ⟨b, off, rfl, hb, he⟩ := hs.at_of k hlt
      have he' := he.below hbel
      have g0 := he'.k
      have g1 := fun o => cell_old wr o he'.a
      have g2 := fun o => cell_old wr o he'.m
      have hvk := fun o => cell_old wr o ((HV.out.below hbel) k hlt)
      have hvk2 := fun o o' => cell_old (wr.alloc o) o' (hvk o)
      have hol := own_lt hown
      obtain ⟨hxl, hib⟩ := hol
      by_cases hal : (al && A k) = true
      · obtain ⟨rfl, hA⟩ : al = true ∧ A k = true := by simpa using hal
        rw [hA] at g1
        clear hal hA
        go_wp2_with (at_builtin; refine wpList_append_fits _ rfl _ _ 24 rfl w.heap.size 26 i0 1 Try.underlying24 hi hz1 w.heap.size (2 * k) (2 * n) xs rfl (((hown.alloc _).alloc _).alloc _) ⟨wr.heap.size + 1 + 1, 0, none⟩ 2 2 [.pointer (some ⟨wr.heap.size + 1, 0, none⟩), .pointer (some (P k))] rfl rfl (two_at _ _ _ _ _ (by simp)) (two_one _ _) (by omega) ?_; intro w1 hown1 hgrow1)
        have R := round_alia hxl hib HI.out hgrow1
        have hB1 := ((((hbel.alloc hbel.size _).alloc (by have := hbel.size; simp; omega) _).alloc (by have := hbel.size; simp; omega) _).grown hgrow1 (by have := hbel.size; simp; omega) (fun k e => by cases e; exact Nat.le_refl _))
        clear hgrow1
        go_roundw
        case rel => exact ⟨k + 1, by omega, by go_num, rfl, ⟨_, hown1, R⟩, hB1⟩
        case measure => simp [intOf]; omega
      · cases al with
        | false =>
          clear hal
          go_wp2_with (at_builtin; refine wpList_append_fits _ rfl _ _ 24 rfl w.heap.size 26 i0 1 Try.underlying24 hi hz1 w.heap.size (2 * k) (2 * n) xs rfl ((hown.alloc _).alloc _) ⟨wr.heap.size + 1, 0, none⟩ 2 2 [.pointer (some ⟨wr.heap.size, 0, none⟩), .pointer (some (P k))] rfl rfl (two_at _ _ _ _ _ (by simp)) (two_one _ _) (by omega) ?_; intro w1 hown1 hgrow1)
          have R := round_scal hxl hib HI.out hgrow1
          have hB1 := (((hbel.alloc hbel.size _).alloc (by have := hbel.size; simp; omega) _).grown hgrow1 (by have := hbel.size; simp; omega) (fun k e => by cases e; exact Nat.le_refl _))
          clear hgrow1
          go_roundw
          case rel => exact ⟨k + 1, by omega, by go_num, rfl, ⟨_, hown1, R⟩, hB1⟩
          case measure => simp [intOf]; omega
        | true =>
          have hA : A k = false := by simpa using hal
          rw [hA] at g1
          clear hal hA
          go_wp2_with (at_builtin; refine wpList_append_fits _ rfl _ _ 24 rfl w.heap.size 26 i0 1 Try.underlying24 hi hz1 w.heap.size (2 * k) (2 * n) xs rfl ((hown.alloc _).alloc _) ⟨wr.heap.size + 1, 0, none⟩ 2 2 [.pointer (some ⟨wr.heap.size, 0, none⟩), .pointer (some (P k))] rfl rfl (two_at _ _ _ _ _ (by simp)) (two_one _ _) (by omega) ?_; intro w1 hown1 hgrow1)
          have R := round_scal hxl hib HI.out hgrow1
          have hB1 := (((hbel.alloc hbel.size _).alloc (by have := hbel.size; simp; omega) _).grown hgrow1 (by have := hbel.size; simp; omega) (fun k e => by cases e; exact Nat.le_refl _))
          clear hgrow1
          go_roundw
          case rel => exact ⟨k + 1, by omega, by go_num, rfl, ⟨_, hown1, R⟩, hB1⟩
          case measure => simp [intOf]; omega
    · have hkn : n = k := by omega
      subst hkn
      go_wp2
      go_ret
      exact ⟨_, rfl, map_done hown HI.out _ _ _ _ _ _ _, hbel.alloc hbel.size _⟩
end Go.Proofs.Qxb6603575a.val
