/-
  THE WALKS of zzReadNumber, zzCloneBytes and the two bounds' functions.
-/
import Derived.Test.Qxb6604476aWrite
namespace Go.Proofs.Qxb6604476a.num
open Go.RowKit

/-- What is left of N without its k least bytes. -/
def top (N : Int) : Nat → Int
  | 0 => N
  | k + 1 => top N k / 256

theorem top_bd (N : Int) (h0 : 0 ≤ N) (k : Nat) : 0 ≤ top N k ∧ top N k ≤ N := by
  induction k with
  | zero => exact ⟨h0, Int.le_refl _⟩
  | succ k ih => show 0 ≤ top N k / 256 ∧ top N k / 256 ≤ N; omega

theorem top_8 (N : Int) (h0 : 0 ≤ N) (h1 : N ≤ 9223372036854775807) : top N 8 = 0 := by
  show N / 256 / 256 / 256 / 256 / 256 / 256 / 256 / 256 = 0
  omega

theorem eight_top (N : Int) (j : Nat) (hj : j < 8) : (eight N)[j]? = some (top N j % 256) := by
  have e2 : N / 65536 = N / 256 / 256 := by omega
  have e3 : N / 16777216 = N / 256 / 256 / 256 := by omega
  have e4 : N / 4294967296 = N / 256 / 256 / 256 / 256 := by omega
  have e5 : N / 1099511627776 = N / 256 / 256 / 256 / 256 / 256 := by omega
  have e6 : N / 281474976710656 = N / 256 / 256 / 256 / 256 / 256 / 256 := by omega
  have e7 : N / 72057594037927936 = N / 256 / 256 / 256 / 256 / 256 / 256 / 256 := by omega
  unfold eight
  rw [e2, e3, e4, e5, e6, e7]
  match j, hj with
  | 0, _ => rfl
  | 1, _ => rfl
  | 2, _ => rfl
  | 3, _ => rfl
  | 4, _ => rfl
  | 5, _ => rfl
  | 6, _ => rfl
  | 7, _ => rfl

/-- WHAT zzReadNumber ANSWERS. -/
def ReadSaid (N : Int) (next : Int) (w : World) (e : Ending) (w' : World) : Prop :=
  e = .returned (.tuple #[.int .u64 N, .int .i64 next, .bool true]) ∧ w = w'

set_option maxHeartbeats 1000000 in
theorem read_short (g pos n c : Nat) (N : Int) (w : World) (hpos : pos < n) (hn : n ≤ 1000000000) (h0 : 0 ≤ N) (h1 : N < 255) (hc : w.cell? ⟨g, pos, none⟩ = some (.int .u8 N)) :
    Calls Try.prog 15 #[.slice (some ⟨g, 0, none⟩) n c, .int .i64 pos] w (ReadSaid N ((pos : Int) + 1) w) := by
  have hlt : (pos : Int) < (n : Int) := by omega
  have hne : (N != 255) = true := by rw [bne_iff_ne]; omega
  have hp : decide ((pos : Int) < 0) = false := decide_eq_false (by omega)
  go_enter Try.func15, Try.ntmps15
  go_wp2
  go_ret3
  exact ⟨rfl, rfl⟩

set_option maxHeartbeats 1000000 in
theorem read_long (g pos n c : Nat) (N : Int) (w : World) (hpos : pos + 9 ≤ n) (hn : n ≤ 1000000000) (h0 : 0 ≤ N) (h1 : N ≤ 9223372036854775807) (hc : w.cell? ⟨g, pos, none⟩ = some (.int .u8 255))
    (h8 : Hid (∀ j z, (eight N)[j]? = some z → w.cell? ⟨g, pos + (j + 1), none⟩ = some (.int .u8 z))) :
    Calls Try.prog 15 #[.slice (some ⟨g, 0, none⟩) n c, .int .i64 pos] w (ReadSaid N ((pos : Int) + 9) w) := by
  have hlt : (pos : Int) < (n : Int) := by omega
  have hp : decide ((pos : Int) < 0) = false := decide_eq_false (by omega)
  have hp9 : decide ((n : Int) - (pos : Int) < 9) = false := decide_eq_false (by omega)
  have H8 := hide (top_8 N h0 h1)
  go_enter Try.func15, Try.ntmps15
  go_wp2
  go_loop [8, 9] (fun u i => ∃ k : Nat, k ≤ 8 ∧ i = .int .i64 k ∧ u = .int .u64 (top N k)) (fun _ i => (intOf i).toNat)
  case atStart => exact ⟨8, Nat.le_refl _, rfl, by rw [unhide H8]⟩
  case round =>
    obtain ⟨k, hk, rfl, rfl⟩ := hrel
    cases k with
    | zero =>
      go_wp2
      go_ret3
      exact ⟨rfl, rfl⟩
    | succ k =>
      have hcell := h8.out k _ (eight_top N k (by omega))
      obtain ⟨b0, b1⟩ := top_bd N h0 k
      have hx : top N (k + 1) = top N k / 256 := rfl
      rw [hx]
      obtain ⟨y, hy⟩ : ∃ y, top N k = y := ⟨_, rfl⟩
      have HY := hide hy
      rw [hy] at hcell b0 b1 ⊢
      obtain ⟨x, hx'⟩ : ∃ x, y / 256 = x := ⟨_, rfl⟩
      obtain ⟨r, hr⟩ : ∃ r, y % 256 = r := ⟨_, rfl⟩
      have HS : Hid (x * 256 + r = y) := by unfold Hid; omega
      have hr0 : 0 ≤ r := by omega
      have hr1 : r ≤ 255 := by omega
      have hx0 : 0 ≤ x := by omega
      have hs1 : x * 256 + r ≤ 9223372036854775807 := by omega
      rw [hr] at hcell
      rw [hx']
      clear hx hy hx' hr b0 b1
      have hi1 : (pos : Int) + ((k : Int) + 1) < (n : Int) := by omega
      go_wp2
      go_round
      case rel => exact ⟨k, by omega, by go_num, by rw [unhide HS, unhide HY]⟩
      case measure => simp [intOf]

/-- code AS IT IS READ: n bytes at the head of a block. -/
def Cd (w : World) (a : Option Addr) (n : Nat) (f : Nat → Int) : Prop :=
  n = 0 ∨ ∃ g, a = some ⟨g, 0, none⟩ ∧ g < w.heap.size ∧ Hid (∀ i, i < n → w.cell? ⟨g, i, none⟩ = some (.int .u8 (f i)))

theorem Cd.below {w w' : World} {a : Option Addr} {n : Nat} {f : Nat → Int} (h : Cd w a n f) (hb : Below w.heap.size w w') : Cd w' a n f := by
  rcases h with h | ⟨g, ha, hlt, hc⟩
  · exact .inl h
  · exact .inr ⟨g, ha, Nat.lt_of_lt_of_le hlt hb.size, hide fun i hi => (hb.cell hlt).trans (unhide hc i hi)⟩

theorem Cd.app {w w' : World} {a : Option Addr} {m n : Nat} {f : Nat → Int} {v v' : Value} (h : Cd w a m f) (ha : App w w' v v' n) (hm : m ≤ n) : Cd w' a m f := by
  rcases h with h | ⟨g, e, hlt, hc⟩
  · exact .inl h
  · refine .inr ⟨g, e, Nat.lt_of_lt_of_le hlt ha.grown.size, hide fun i hi => ?_⟩
    refine Eq.trans ?_ (unhide hc i hi)
    by_cases e : v.ownBlock = some g
    · exact ha.row g e i (by omega)
    · exact World.cell?_of_block (ha.grown.block g hlt (fun e' => e e'.symm))

theorem Cd.at_of {w : World} {a : Option Addr} {n : Nat} {f : Nat → Int} (h : Cd w a n f) (i : Nat) (hi : i < n) : ∃ g, a = some ⟨g, 0, none⟩ ∧ w.cell? ⟨g, i, none⟩ = some (.int .u8 (f i)) := by
  rcases h with h | ⟨g, e, hlt, hc⟩
  · omega
  · exact ⟨g, e, unhide hc i hi⟩

/-- The bytes of code, as a list. -/
def bytesOf (n : Nat) (f : Nat → Int) : List Int := (List.range n).map f
theorem bytesOf_len (n : Nat) (f : Nat → Int) : (bytesOf n f).length = n := by simp [bytesOf]
theorem bytesOf_at (n : Nat) (f : Nat → Int) (i : Nat) (hi : i < n) : (bytesOf n f)[i]? = some (f i) := by simp [bytesOf, hi]

theorem own_row {w : World} {base b n : Nat} {f : Nat → Int} (h : w.rowIs b 5 n (fun i => .int .u8 (f i))) (hb : base ≤ b) (hn : n ≤ maxLen) : Owns w base (.slice (some ⟨b, 0, none⟩) n n) (bytesOf n f) := by
  obtain ⟨c, hh, hs, hc⟩ := h
  unfold Owns
  rw [bytesOf_len]
  refine ⟨by rw [bcells_len, bytesOf_len, Nat.mul_one], .inr ⟨b, n, c, rfl, hb, hh, Nat.le_refl _, hn, by omega, ?_⟩⟩
  apply List.ext_getElem?
  intro i
  by_cases hi : i < n
  · rw [List.getElem?_take_of_lt (by omega), Array.getElem?_toList, hc i hi]
    simp [bcells, bytesOf, hi]
  · rw [List.getElem?_eq_none (by simp; omega), List.getElem?_eq_none (by rw [bcells_len, bytesOf_len]; omega)]

def CloneSaid (n : Nat) (f : Nat → Int) (w : World) (e : Ending) (w' : World) : Prop :=
  ∃ a' c', e = .returned (.slice a' n c') ∧ Owns w' w.heap.size (.slice a' n c') (bytesOf n f) ∧ Cd w' a' n f ∧ Below w.heap.size w w'

set_option maxHeartbeats 1000000 in
/-- zzCloneBytes: a copy in new memory. -/
theorem clone (a : Option Addr) (n c : Nat) (f : Nat → Int) (w : World) (hn : n ≤ 1048576) (hs : Sl .u8 w a n f) :
    Calls Try.prog 8 #[.slice a n c] w (CloneSaid n f w) := by
  have hmk := run_make_row' (P := Try.prog) 22 5 (.int .u8 0) 1 Try.underlying22 info5 rfl .i64 .i64 n (by omega) (by omega)
  have hnil := fun (w : World) (a : Option Addr) (l c : Nat) => Lib.run_eql_slice_nil (P := Try.prog) w 22 5 a l c 0 0 Try.underlying22
  cases a with
  | none =>
    have hn0 : n = 0 := by rcases hs with h | ⟨b, off, h, _⟩; exact h; cases h
    subst hn0
    go_enter Try.func8, Try.ntmps8
    go_wp2
    go_ret
    exact ⟨none, 0, rfl, World.ownsRow_nil _ _ _ _, .inl rfl, Below.refl _ _⟩
  | some x =>
    go_enter Try.func8, Try.ntmps8
    go_wp2
    go_loopw [4] (fun i wr => ∃ k : Nat, k ≤ n ∧ i = .int .i64 k ∧ wr.rowIs w.heap.size 5 n (fun j => .int .u8 (if j < k then f j else 0)) ∧ Below w.heap.size w wr) (fun i _ => n - (intOf i).toNat)
    case atStart => exact ⟨0, Nat.zero_le _, rfl, by simpa using World.rowIs_made w (.int .u8 0) n 5, (Below.refl _ _).alloc (Nat.le_refl _) _⟩
    case round =>
      obtain ⟨k, hk, rfl, hrow, hbel⟩ := hrel
      by_cases hlt : k < n
      · obtain ⟨b, off, rfl, hb, hc⟩ : ∃ b off, x = ⟨b, off, none⟩ ∧ b < w.heap.size ∧ ∀ i, i < n → w.cell? ⟨b, off + i, none⟩ = some (.int .u8 (f i)) := by
          rcases hs with h | ⟨b, off, h, h1, h2⟩
          · omega
          · exact ⟨b, off, by simpa using h, h1, h2⟩
        have hcx : wr.cell? ⟨b, off + k, none⟩ = some (.int .u8 (f k)) := (hbel.cell hb).trans (hc k hlt)
        have hcy := hrow.cell hlt
        have hfy := hrow.frozen k
        go_wp2
        go_roundw
        case rel => exact ⟨k + 1, by omega, by go_num, (hrow.set k (.int .u8 (f k))).congr (by intro j hj; by_cases h : j = k <;> simp [h] <;> (try split) <;> (try split) <;> first | rfl | omega), hbel.setCell (Nat.le_refl _) _⟩
        case measure => simp [intOf]; omega
      · have hrow' : wr.rowIs w.heap.size 5 n (fun j => .int .u8 (f j)) := hrow.congr (by intro i hi; rw [if_pos (by omega)])
        have HR := hide hrow'
        clear hrow hrow'
        go_wp2
        go_ret
        exact ⟨_, _, rfl, own_row (unhide HR) (Nat.le_refl _) (by unfold maxLen; omega), .inr ⟨_, rfl, (unhide HR).lt, hide fun i hi => (unhide HR).cell hi⟩, hbel⟩

/-- A bool, and nothing has turned. -/
def AnyBool (w : World) (e : Ending) (w' : World) : Prop := ∃ bo, e = .returned (.bool bo) ∧ w = w'

theorem bytes13 (a : Option Addr) (n c : Nat) (N : Int) (w : World) : Calls Try.prog 13 #[.slice a n c, .int .i64 N] w (AnyBool w) := by
  go_enter Try.func13, Try.ntmps13
  go_wp2
  all_goals (go_ret; exact ⟨_, rfl, rfl⟩)

theorem bytes16 (a b : Option Addr) (n c m d : Nat) (w : World) : Calls Try.prog 16 #[.slice a n c, .slice b m d] w (AnyBool w) := by
  go_enter Try.func16, Try.ntmps16
  go_wp2
  all_goals (go_ret; exact ⟨_, rfl, rfl⟩)
end Go.Proofs.Qxb6604476a.num
