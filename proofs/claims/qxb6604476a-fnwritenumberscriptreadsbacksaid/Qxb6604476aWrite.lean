/-
  THE WALKS of AppendUint64, appendNumber, writeNumber, ZZwriteNumber.
-/
import Derived.Test.Qxb6604476aAppend
namespace Go.Proofs.Qxb6604476a.num
open Go.RowKit

/-- WHAT A WRITER ANSWERS: the bytes l behind those that v owned. -/
def WriteSaid (base : Nat) (v : Value) (l0 l : List Int) (w : World) (e : Ending) (w' : World) : Prop :=
  ∃ v', e = .returned v' ∧ Owns w' base v' (l0 ++ l) ∧ App w w' v v' l0.length

/-- The eight bytes, as the walk writes them. -/
def eight' (v : Int) : List Int := [v % 256, v / 256 % 256, v / 65536 % 256, v / 16777216 % 256, v / 4294967296 % 256, v / 1099511627776 % 256, v / 281474976710656 % 256, v / 72057594037927936]
theorem eight_is (v : Int) (h0 : 0 ≤ v) (h1 : v ≤ 9223372036854775807) : eight' v = eight v := by
  have e : v / 72057594037927936 % 256 = v / 72057594037927936 := by omega
  unfold eight eight'
  rw [e]

set_option maxHeartbeats 2000000 in
theorem append64 (base : Nat) (a : Option Addr) (n c : Nat) (l0 : List Int) (N : Int) (w : World) (ho : Owns w base (.slice a n c) l0) (hb : base ≤ w.heap.size) (h0 : 0 ≤ N) (h1 : N ≤ 9223372036854775807) (hlim : l0.length ≤ 140000000000000) :
    Calls Try.prog 21 #[.agg #[], .slice a n c, .int .u64 N] w (WriteSaid base (.slice a n c) l0 (eight N) w) := by
  have H8 := hide (eight_is N h0 h1)
  have hv : ∀ g, (Value.slice a n c).ownBlock = some g → g < w.heap.size := fun g hg => (ho.lt g hg).1
  have HV := hide hv
  clear hv
  go_enter Try.func21, Try.ntmps21
  go_wp2_with (at_builtin; refine wpList_app _ rfl (.tmp 7) (.tmp 31) rfl base (.slice a n c) l0 rfl ((ho.alloc _).alloc _) (by simp; omega) ⟨w.heap.size + 1, 0, none⟩ 8 8 (eight' N) rfl rfl (by decide) (news_at _ _ _ _ _ (by simp) rfl) (by omega) ?_; intro v' w1 ho1 hap)
  go_ret
  refine ⟨v', rfl, ?_, ?_⟩
  · rw [← unhide H8]; exact ho1
  · exact ((App.alloc w _ _ l0.length (unhide HV)).trans (unhide HV) (App.alloc _ _ _ l0.length (fun g hg => Nat.lt_of_lt_of_le (unhide HV g hg) (by simp))) (Nat.le_refl _)).trans (unhide HV) hap (Nat.le_refl _)

theorem app_wide {w w1 w2 : World} {o : Obj} {v v1 v2 : Value} {n n1 : Nat} (hv : ∀ g, v.ownBlock = some g → g < w.heap.size) (h1 : App (w.alloc o).drew w1 v v1 n) (h2 : App w1 w2 v1 v2 n1) (hn : n ≤ n1) : App w w2 v v2 n :=
  (((App.alloc w o v n hv).trans hv (App.drew _ v n) (Nat.le_refl _)).trans hv h1 (Nat.le_refl _)).trans hv h2 hn

set_option maxHeartbeats 400000 in
theorem appendNumber (base : Nat) (a : Option Addr) (n c : Nat) (l0 : List Int) (N : Int) (w : World) (ho : Owns w base (.slice a n c) l0) (hb : base ≤ w.heap.size) (h0 : 0 ≤ N) (h1 : N ≤ 9223372036854775807) (hlim : l0.length ≤ 130000000000000) :
    Calls Try.prog 20 #[.slice a n c, .int .i64 N] w (WriteSaid base (.slice a n c) l0 (enc N) w) := by
  have hv : ∀ g, (Value.slice a n c).ownBlock = some g → g < w.heap.size := fun g hg => (ho.lt g hg).1
  have HV := hide hv
  clear hv
  by_cases hs : N < 255
  · have HE := hide (enc_short hs)
    go_enter Try.func20, Try.ntmps20
    go_wp2_with (at_builtin; refine wpList_app _ rfl (.tmp 7) (.tmp 10) rfl base (.slice a n c) l0 rfl (ho.alloc _) (by simp; omega) ⟨w.heap.size, 0, none⟩ 1 1 [N] rfl rfl (by decide) (news_at _ _ _ _ _ (by simp) rfl) (by omega) ?_; intro v' w1 ho1 hap)
    go_ret
    refine ⟨v', rfl, ?_, ?_⟩
    · rw [unhide HE]; exact ho1
    · exact (App.alloc w _ _ l0.length (unhide HV)).trans (unhide HV) hap (Nat.le_refl _)
  · have HE := hide (enc_long hs)
    have hwr : IntKind.u64.wrap N = N := by rw [IntKind.wrap_u64]; omega
    go_enter Try.func20, Try.ntmps20
    go_wp2
    go_region_law (first
      | (refine step_app rfl (.tmp 13) (.tmp 14) rfl base (.slice a n c) l0 (by simp [Act.eval]) (ho.alloc _) (by simp; omega) ⟨w.heap.size, 0, none⟩ 1 1 [255] (by simp [Act.eval]) rfl (by decide) (news_at _ _ _ _ _ (by simp) rfl) (by omega) ?_; intro v1 w1 ho1 hap1; obtain ⟨a1, n1, c1, hv1⟩ := ho1.form; subst hv1)
      | (go_simp; go_at_call 21; refine (append64 base a1 n1 c1 (l0 ++ [255]) N _ ho1 (by have := hap1.grown.size; simp at this; omega) h0 h1 (by simp; omega)).mono ?_; rintro e w2 ⟨v2, rfl, ho2, hap2⟩))
    all_goals
      go_wp2
      go_ret
      refine ⟨v2, rfl, ?_, ?_⟩
      · rw [unhide HE]
        have e : l0 ++ 255 :: eight N = l0 ++ [255] ++ eight N := by simp
        rw [e]; exact ho2
      · exact app_wide (unhide HV) hap1 hap2 (by simp)

/-- A store into a block that was not there. -/
theorem App.setNew {w w1 : World} {v v1 : Value} {n : Nat} (hv : ∀ g, v.ownBlock = some g → g < w.heap.size) (h : App w w1 v v1 n) {p : Addr} (hp : w.heap.size ≤ p.block) (u : Value) : App w (w1.setCell p u) v v1 n := by
  have hb := (Below.refl w.heap.size w1).setCell hp u
  refine ⟨⟨h.grown.os, h.grown.tape, h.grown.output, Nat.le_trans h.grown.size hb.size, fun k hk hne => (hb.block k hk).trans (h.grown.block k hk hne)⟩, fun g hg o ho => (hb.cell (p := ⟨g, o, none⟩) (hv g hg)).trans (h.row g hg o ho), h.own⟩

/-- The reader's block behind the append, and that the new value lies elsewhere. -/
theorem box_kept {w w1 : World} {o : Obj} {v v1 : Value} {n : Nat} (hv : ∀ g, v.ownBlock = some g → g < w.heap.size) (h : App (w.alloc o) w1 v v1 n) : w1.heap[w.heap.size]? = some o ∧ ∀ g, v1.ownBlock = some g → g ≠ w.heap.size := by
  have hs : (w.alloc o).heap.size = w.heap.size + 1 := Go.Deep.nblk_alloc _ _
  constructor
  · rw [h.grown.block w.heap.size (by omega) (by intro e; have := hv _ e.symm; omega)]
    exact Go.Deep.blk_alloc_new _ _
  · intro g hg e
    rcases h.own with e1 | ⟨g', e1, hg'⟩
    · rw [e1] at hg; have := hv g hg; omega
    · rw [e1] at hg; have := Option.some.inj hg; omega

theorem cell_of_block {w : World} {b i : Nat} {c : Array Value} {t : TypeId} {v : Value} (h : w.heap[b]? = some (.cells c t (0, 0))) (hc : c[i]? = some v) : w.cell? ⟨b, i, none⟩ = some v ∧ w.frozen? ⟨b, i, none⟩ = false := by
  constructor
  · unfold World.cell?; simp only [h]; exact hc
  · simp [World.frozen?, h]

/-- WHAT (*reader).writeNumber DOES: the reader's fifth field holds the new slice. -/
def InnerSaid (base R : Nat) (v : Value) (l0 l : List Int) (w : World) (e : Ending) (w' : World) : Prop :=
  ∃ v1 w1, e = .returned (.tuple #[]) ∧ Owns w1 base v1 (l0 ++ l) ∧ App w w1 v v1 l0.length ∧ w' = w1.setCell ⟨R, 4, none⟩ v1

set_option maxHeartbeats 1000000 in
theorem inner (base R : Nat) (cells : Array Value) (a : Option Addr) (n c : Nat) (l0 : List Int) (N : Int) (w : World) (hR : w.heap[R]? = some (.cells cells 45 (0, 0))) (h4 : cells[4]? = some (.slice a n c))
    (hne : ∀ g, (Value.slice a n c).ownBlock = some g → g ≠ R) (ho : Owns w base (.slice a n c) l0) (hb : base ≤ w.heap.size) (h0 : 0 ≤ N) (h1 : N ≤ 9223372036854775807) (hlim : l0.length ≤ 130000000000000) :
    Calls Try.prog 19 #[.pointer (some ⟨R, 0, none⟩), .int .i64 N] w (InnerSaid base R (.slice a n c) l0 (enc N) w) := by
  have hc4 := (cell_of_block hR h4).1
  have hlt : R < w.heap.size := (Array.getElem?_eq_some_iff.1 hR).1
  have HR := hide hR
  have HN := hide hne
  clear hR hne
  go_enter Try.func19, Try.ntmps19
  go_wp2_with fail
  refine (appendNumber base a n c l0 N _ ho hb h0 h1 hlim).mono ?_
  rintro e w1 ⟨v1, rfl, ho1, hap⟩
  obtain ⟨a1, n1, c1, hv1⟩ := ho1.form
  subst hv1
  have hk : w1.heap[R]? = some (.cells cells 45 (0, 0)) := (hap.grown.block R hlt (by intro e; exact unhide HN R e.symm rfl)).trans (unhide HR)
  have hc5 := (cell_of_block hk h4).1
  have hf5 := (cell_of_block hk h4).2
  have HK := hide hk
  clear hk
  go_wp2
  go_end0
  exact ⟨_, w1, rfl, ho1, hap, rfl⟩

set_option maxHeartbeats 1000000 in
theorem writeNumber (base : Nat) (a : Option Addr) (n c : Nat) (l0 : List Int) (N : Int) (w : World) (ho : Owns w base (.slice a n c) l0) (hb : base ≤ w.heap.size) (h0 : 0 ≤ N) (h1 : N ≤ 9223372036854775807) (hlim : l0.length ≤ 130000000000000) :
    Calls Try.prog 14 #[.slice a n c, .int .i64 N] w (WriteSaid base (.slice a n c) l0 (enc N) w) := by
  have hv : ∀ g, (Value.slice a n c).ownBlock = some g → g < w.heap.size := fun g hg => (ho.lt g hg).1
  have HV := hide hv
  clear hv
  go_enter Try.func14, Try.ntmps14
  go_wp2_with fail
  refine (inner base w.heap.size _ a n c l0 N _ (Go.Deep.blk_alloc_new _ _) rfl (fun g hg e => by have := unhide HV g hg; omega) (ho.alloc _) (by simp; omega) h0 h1 hlim).mono ?_
  rintro e w2 ⟨v1, w1, rfl, ho1, hap, hw2⟩
  obtain ⟨a1, n1, c1, hv1⟩ := ho1.form
  subst hv1
  obtain ⟨hk, hk2⟩ := box_kept (unhide HV) hap
  have hc5 := (cell_of_block (i := 4) hk rfl).1
  have hc6 : w2.cell? ⟨w.heap.size, 4, none⟩ = some (.slice a1 n1 c1) := by rw [hw2]; exact World.cell?_setCell_same _ _ _ hc5
  have HH := hide (And.intro hk hk2)
  have HW := hide hw2
  clear hk hk2 hc5 hw2
  go_wp2
  go_ret
  refine ⟨_, rfl, ?_, ?_⟩
  · rw [unhide HW]
    exact ho1.block fun g hg => Go.Deep.blk_setCell_other _ _ _ _ ((unhide HH).2 g hg)
  · rw [unhide HW]
    exact ((App.alloc w _ _ l0.length (unhide HV)).trans (unhide HV) hap (Nat.le_refl _)).setNew (unhide HV) (Nat.le_refl _) _
end Go.Proofs.Qxb6604476a.num
