/-
  THE BASE of the proofs over writeNumber: slices that are read; a slice that is appended to, with the exact frame of what an append turns.
-/
import Derived.Test.Qxb6604476aRows
import Derived.Test.Qxb6604476aPlain
import Derived.WalkKit
import Derived.WalkSpells
import Derived.ProofKit
import Derived.OpenShut
import Derived.Below
import Derived.ArgAppend
import Derived.Deep.OwnRows
import Derived.Deep.QuietTactic
import Derived.Deep.RegionLaw
import Derived.BigQuiet
namespace Go.Proofs.Qxb6604476a.num
open Go.RowKit

theorem hide {p : Prop} (h : p) : Hid p := h
theorem unhide {p : Prop} (h : Hid p) : p := h

/-- A SLICE OF n INTEGERS OF KIND k AT a READS AS f: it is empty, or it leads to n cells of a block that is there. -/
def Sl (k : IntKind) (w : World) (a : Option Addr) (n : Nat) (f : Nat → Int) : Prop :=
  n = 0 ∨ ∃ b off, a = some ⟨b, off, none⟩ ∧ b < w.heap.size ∧ ∀ i, i < n → w.cell? ⟨b, off + i, none⟩ = some (.int k (f i))

theorem Sl.below {k : IntKind} {w w' : World} {a : Option Addr} {n : Nat} {f : Nat → Int} (h : Sl k w a n f) (hb : Below w.heap.size w w') : Sl k w' a n f := by
  rcases h with h | ⟨b, off, ha, hlt, hc⟩
  · exact .inl h
  · exact .inr ⟨b, off, ha, Nat.lt_of_lt_of_le hlt hb.size, fun i hi => (hb.cell hlt).trans (hc i hi)⟩

theorem Sl.congr {k : IntKind} {w : World} {a : Option Addr} {n : Nat} {f g : Nat → Int} (h : Sl k w a n f) (e : ∀ i, i < n → f i = g i) : Sl k w a n g := by
  rcases h with h | ⟨b, off, ha, hlt, hc⟩
  · exact .inl h
  · exact .inr ⟨b, off, ha, hlt, fun i hi => by rw [hc i hi, e i hi]⟩

theorem at_of {k : IntKind} {w : World} {a : Option Addr} {n : Nat} {f : Nat → Int} (hs : Sl k w a n f) (i : Nat) (hi : i < n) :
    ∃ b off, a = some ⟨b, off, none⟩ ∧ b < w.heap.size ∧ Hid (∀ i, i < n → w.cell? ⟨b, off + i, none⟩ = some (.int k (f i))) := by
  rcases hs with h | h
  · omega
  · exact h

theorem bstep {w w1 w2 : World} (h : Below w.heap.size w w1) (h' : Below w1.heap.size w1 w2) : Below w.heap.size w w2 :=
  h.trans (h'.mono h.size)

theorem below_draws {B : Nat} {a w : World} (h : Below B a w) (n : Nat) : Below B a (w.drewN n) := h.trans ⟨rfl, rfl, rfl, Nat.le_refl _, fun _ _ => rfl⟩

/-! ### A slice that is appended to -/

/-- The bytes as cells. -/
def bcells (l : List Int) : List Value := l.map (Value.int .u8)

/-- THE SLICE VALUE v OWNS THE BYTES l, in a block from 'base' on. -/
def Owns (w : World) (base : Nat) (v : Value) (l : List Int) : Prop := w.ownsRow base 5 1 v l.length (bcells l)

/-- WHAT AN APPEND ONTO v (of n elements) TURNS: no block but v's own; there no cell of the first n; the new value lies in v's block or in a new one. -/
structure App (w w' : World) (v v' : Value) (n : Nat) : Prop where
  grown : w.grownBy w' v.ownBlock
  row : ∀ g, v.ownBlock = some g → ∀ o, o < n → w'.cell? ⟨g, o, none⟩ = w.cell? ⟨g, o, none⟩
  own : v'.ownBlock = v.ownBlock ∨ ∃ g, v'.ownBlock = some g ∧ w.heap.size ≤ g

theorem App.refl (w : World) (v : Value) (n : Nat) : App w w v v n := ⟨World.grownBy.refl _ _, fun _ _ _ _ => rfl, .inl rfl⟩

theorem App.alloc (w : World) (o : Obj) (v : Value) (n : Nat) (hv : ∀ g, v.ownBlock = some g → g < w.heap.size) : App w (w.alloc o) v v n := by
  have hb := (Below.refl w.heap.size w).alloc (Nat.le_refl _) o
  exact ⟨⟨rfl, rfl, rfl, hb.size, fun k hk _ => hb.block k hk⟩, fun g hg o _ => hb.cell (p := ⟨g, o, none⟩) (hv g hg), .inl rfl⟩

theorem App.drew (w : World) (v : Value) (n : Nat) : App w w.drew v v n := ⟨⟨rfl, rfl, rfl, Nat.le_refl _, fun _ _ _ => rfl⟩, fun _ _ _ _ => rfl, .inl rfl⟩

theorem App.trans {w w1 w2 : World} {v v1 v2 : Value} {n n1 : Nat} (hv : ∀ g, v.ownBlock = some g → g < w.heap.size) (h : App w w1 v v1 n) (k : App w1 w2 v1 v2 n1) (hn : n ≤ n1) : App w w2 v v2 n := by
  have other : ∀ b, b < w.heap.size → some b ≠ v.ownBlock → some b ≠ v1.ownBlock := by
    intro b hb hne e
    rcases h.own with e1 | ⟨g, e1, hg⟩
    · exact hne (e.trans e1)
    · rw [e1] at e; have := Option.some.inj e; omega
  refine ⟨⟨k.grown.os.trans h.grown.os, k.grown.tape.trans h.grown.tape, k.grown.output.trans h.grown.output, Nat.le_trans h.grown.size k.grown.size, fun b hb hne =>
    (k.grown.block b (Nat.lt_of_lt_of_le hb h.grown.size) (other b hb hne)).trans (h.grown.block b hb hne)⟩, fun g hg o ho => ?_, ?_⟩
  · refine Eq.trans ?_ (h.row g hg o ho)
    by_cases e : v1.ownBlock = some g
    · exact k.row g e o (by omega)
    · exact World.cell?_of_block (k.grown.block g (Nat.lt_of_lt_of_le (hv g hg) h.grown.size) (fun e' => e e'.symm))
  · rcases k.own with e | ⟨g, e, hg⟩
    · rw [e]; exact h.own
    · exact .inr ⟨g, e, Nat.le_trans h.grown.size hg⟩

theorem Owns.lt {w : World} {base : Nat} {v : Value} {l : List Int} (h : Owns w base v l) : ∀ g, v.ownBlock = some g → g < w.heap.size ∧ base ≤ g := by
  obtain ⟨_, h⟩ := h
  rcases h with ⟨rfl, _⟩ | ⟨g, cap, cur, rfl, hb, hh, _⟩
  · intro g hg; cases hg
  · intro g' hg
    cases hg
    obtain ⟨hlt, _⟩ := Array.getElem?_eq_some_iff.1 hh
    exact ⟨hlt, hb⟩

theorem Owns.form {w : World} {base : Nat} {v : Value} {l : List Int} (h : Owns w base v l) : ∃ a n cap, v = .slice a n cap := by
  obtain ⟨_, h⟩ := h
  rcases h with ⟨rfl, h0⟩ | ⟨g, cap, cur, rfl, _⟩
  · exact ⟨none, 0, 0, rfl⟩
  · exact ⟨_, _, _, rfl⟩

theorem Owns.len {w : World} {base : Nat} {a : Option Addr} {n c : Nat} {l : List Int} (h : Owns w base (.slice a n c) l) : n = l.length := by
  obtain ⟨_, h⟩ := h
  rcases h with ⟨h1, h0⟩ | ⟨g, cap, cur, h1, _⟩
  · cases h1; exact h0.symm
  · cases h1; rfl

/-- Byte i of what is owned. -/
theorem Owns.at_ {w : World} {base : Nat} {a : Option Addr} {n c : Nat} {l : List Int} (h : Owns w base (.slice a n c) l) {i : Nat} {z : Int} (hi : l[i]? = some z) :
    ∃ g, a = some ⟨g, 0, none⟩ ∧ g < w.heap.size ∧ w.cell? ⟨g, i, none⟩ = some (.int .u8 z) := by
  obtain ⟨hl, h⟩ := h
  have hil := (List.getElem?_eq_some_iff.1 hi).1
  rcases h with ⟨_, h0⟩ | ⟨g, cap, cur, hv, _, hh, _, _, _, htk⟩
  · omega
  · cases hv
    obtain ⟨hlt, _⟩ := Array.getElem?_eq_some_iff.1 hh
    refine ⟨g, rfl, hlt, ?_⟩
    have hx : (bcells l)[i]? = some (.int .u8 z) := by simp [bcells, hi]
    rw [← htk, List.getElem?_take_of_lt (by omega)] at hx
    unfold World.cell?
    simp only [hh]
    simpa using hx

/-- What is owned stays owned where its block stays. -/
theorem Owns.block {w w' : World} {base : Nat} {v : Value} {l : List Int} (h : Owns w base v l) (hb : ∀ g, v.ownBlock = some g → w'.heap[g]? = w.heap[g]?) : Owns w' base v l := by
  obtain ⟨hl, h⟩ := h
  refine ⟨hl, ?_⟩
  rcases h with h | ⟨g, cap, cur, rfl, hg, hh, r⟩
  · exact .inl h
  · exact .inr ⟨g, cap, cur, rfl, hg, (hb g rfl).trans hh, r⟩

theorem Owns.alloc {w : World} {base : Nat} {v : Value} {l : List Int} (h : Owns w base v l) (o : Obj) : Owns (w.alloc o) base v l :=
  h.block fun g hg => ((Below.refl w.heap.size w).alloc (Nat.le_refl _) o).block g (h.lt g hg).1

theorem Owns.below {w w' : World} {base : Nat} {v : Value} {l : List Int} (h : Owns w base v l) (hb : Below w.heap.size w w') : Owns w' base v l :=
  h.block fun g hg => hb.block g (h.lt g hg).1

/-- A slice that is read (code) stays readable behind an append onto v, where v's own block is another or holds it among its first n. -/
theorem Sl.app {k : IntKind} {w w' : World} {g m n : Nat} {f : Nat → Int} {v v' : Value} (h : Sl k w (some ⟨g, 0, none⟩) m f) (ha : App w w' v v' n) (hm : m ≤ n) : Sl k w' (some ⟨g, 0, none⟩) m f := by
  rcases h with h | ⟨b, off, e, hlt, hc⟩
  · exact .inl h
  · cases e
    refine .inr ⟨g, 0, rfl, Nat.lt_of_lt_of_le hlt ha.grown.size, fun i hi => ?_⟩
    refine Eq.trans ?_ (hc i hi)
    by_cases e : v.ownBlock = some g
    · exact ha.row g e (0 + i) (by omega)
    · exact World.cell?_of_block (ha.grown.block g hlt (fun e' => e e'.symm))

theorem App.below {w w' : World} {base : Nat} {v v' : Value} {n : Nat} {l : List Int} (ho : Owns w base v l) (h : App w w' v v' n) (hb : base ≤ w.heap.size) : Below base w w' :=
  (Below.refl base w).grown h.grown hb fun k hk => (ho.lt k hk).2

theorem info5 : (Try.prog.info? 5).map (fun i => (i.zero, i.size, i.bytes)) = some (some (.int .u8 0), 1, 1) := by kernel_rfl

end Go.Proofs.Qxb6604476a.num
