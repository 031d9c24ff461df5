/-
  THE BASE of the proof of 'Rows.FnKeptUntilStricterRulesHoldLongerSaid': what the walks are told of a slice of integers, and how it goes on to a later world.
-/
import Derived.Test.Qxb6603494aRows
import Derived.WalkKit
import Derived.WalkSpells
import Derived.ProofKit
import Derived.OpenShut
import Derived.Below
import Derived.Deep.OwnRows
import Derived.Deep.QuietTactic
import Derived.BigQuiet
import Derived.BigRegion
namespace Go.Proofs.Qxb6603494a.kept
open Go.RowKit

/-- A SLICE OF n INTEGERS OF KIND k AT a READS AS f: it is empty, or it leads to n cells of a block that is there. -/
def Sl (k : IntKind) (w : World) (a : Option Addr) (n : Nat) (f : Nat → Int) : Prop :=
  n = 0 ∨ ∃ b off, a = some ⟨b, off, none⟩ ∧ b < w.heap.size ∧ ∀ i, i < n → w.cell? ⟨b, off + i, none⟩ = some (.int k (f i))

theorem Sl.below {k : IntKind} {w w' : World} {a : Option Addr} {n : Nat} {f : Nat → Int} (h : Sl k w a n f) (hb : Below w.heap.size w w') : Sl k w' a n f := by
  rcases h with h | ⟨b, off, ha, hlt, hc⟩
  · exact .inl h
  · exact .inr ⟨b, off, ha, Nat.lt_of_lt_of_le hlt hb.size, fun i hi => (hb.cell hlt).trans (hc i hi)⟩

theorem Sl.congr {k : IntKind} {w : World} {a : Option Addr} {n : Nat} {f g : Nat → Int} (h : Sl k w a n f) (e : ∀ i, i < n → f i = g i) : Sl k w a n g := by
  rcases h with h | ⟨b, off, ha, hlt, hc⟩
  · exact .inl h
  · exact .inr ⟨b, off, ha, hlt, fun i hi => by rw [hc i hi, e i hi]⟩

theorem Sl.row {k : IntKind} {t : TypeId} {w : World} {b n : Nat} {f : Nat → Int} (h : w.rowIs b t n (fun i => .int k (f i))) : Sl k w (some ⟨b, 0, none⟩) n f :=
  .inr ⟨b, 0, rfl, h.lt, fun i hi => by simpa using h.cell hi⟩

/-- What is below the old world's end stays, step by step. -/
theorem bstep {w w1 w2 : World} (h : Below w.heap.size w w1) (h' : Below w1.heap.size w1 w2) : Below w.heap.size w w2 :=
  h.trans (h'.mono h.size)

theorem info21 : (Try.prog.info? 21).map (fun i => (i.zero, i.size, i.bytes)) = some (some (.int .i32 0), 1, 4) := by kernel_rfl
theorem info5 : (Try.prog.info? 5).map (fun i => (i.zero, i.size, i.bytes)) = some (some (.int .u8 0), 1, 1) := by kernel_rfl

end Go.Proofs.Qxb6603494a.kept
