/-
  THE PROOF OF 'Rows.FnValueSeesThroughAliasKeysSaid': the row's step over the walk (Qxb6603575aLaw.lean). The frame is the guide's own (howto/template/XProofs.lean; 'Below') at this function's number and types: a slice of structs and a string.
-/
import Derived.Test.Qxb6603575aRows
import Derived.Test.Qxb6603575aLaw
import Derived.WalkKit
import Derived.ProofKit
import Derived.OpenShut
import Derived.ShutString
import Derived.ChangeOld
import Derived.Below
import Derived.Deep.Slices
namespace Go.Proofs.Qxb6603575a.fnValueSeesThroughAliasKeys
open Go.ChangeShapes Go.WideShapes Go.ChangeAt Go.RowKit
open Go.ChangeMaps (open_string shut_string)

theorem own : ownKnob Try.prog.godebug = none := by kernel_rfl
theorem laidOut : laidOutB Try.prog = true := by kernel_rfl
theorem cells30 : Try.prog.cellsOf 30 = 4 := by kernel_rfl
theorem cells9 : Try.prog.cellsOf 9 = 1 := by kernel_rfl
theorem cells4 : Try.prog.cellsOf 4 = 1 := by kernel_rfl

theorem choose_all {α : Type} {p : Nat → α → Prop} (h : ∀ i, ∃ x, p i x) : ∃ f : Nat → α, ∀ i, p i (f i) := ⟨fun i => Classical.choose (h i), fun i => Classical.choose_spec (h i)⟩

/-- ONE ENTRY, from its four cells. -/
theorem entry_of {H : Type} {enc : TypeId × Value → H} {W : World} {x : Addr} {i n : Nat} {cs : List Value} {y : DataW H × List MemPlace}
    (h1 : W.cells? 0 (x.add (i * 4)) 4 = some cs) (h2 : DataW.trod enc Try.prog W 0 (fun _ => true) true n 30 cs = some y) :
    ∃ (k : ByteArray) (a : Bool) (m v : ByteArray), k.size ≤ maxLen ∧ m.size ≤ maxLen ∧ v.size ≤ maxLen ∧ W.cell? (x.add (i * 4)) = some (.string k) ∧ W.cell? (x.add (i * 4 + 1)) = some (.bool a) ∧
      W.cell? (x.add (i * 4 + 2)) = some (.string m) ∧ W.cell? (x.add (i * 4 + 3)) = some (.string v) := by
  obtain ⟨_, hlen, hcell⟩ := World.cells?_some h1
  obtain ⟨xs, q, hq, hxy, _, hxl, hf⟩ := DataW.trod_struct Try.underlying30 h2
  match xs, hxl, cs, hlen with
  | [y0, y1, y2, y3], _, [v0, v1, v2, v3], _ =>
    have g0 := hf 0 _ rfl
    have g1 := hf 1 _ rfl
    have g2 := hf 2 _ rfl
    have g3 := hf 3 _ rfl
    simp [cells9, cells4] at g0 g1 g2 g3
    obtain ⟨s0, e0, _, b0⟩ := DataW.trod_string Try.underlying9 g0
    obtain ⟨s1, e1, _⟩ := DataW.trod_bool Try.underlying4 g1
    obtain ⟨s2, e2, _, b2⟩ := DataW.trod_string Try.underlying9 g2
    obtain ⟨s3, e3, _, b3⟩ := DataW.trod_string Try.underlying9 g3
    simp at e0 e1 e2 e3
    subst e0; subst e1; subst e2; subst e3
    have c0 := hcell 0 (by omega)
    have c1 := hcell 1 (by omega)
    have c2 := hcell 2 (by omega)
    have c3 := hcell 3 (by omega)
    rw [Go.Deep.add_add] at c0 c1 c2 c3
    exact ⟨s0, s1, s2, s3, b0, b2, b3, by simpa using c0, by simpa using c1, by simpa using c2, by simpa using c3⟩

/-- THE SLICE OF ENTRIES, as the walk wants it. -/
theorem ent_of {H : Type} {enc : TypeId × Value → H} {W : World} {a : Option Addr} {len cap fuel : Nat} {y : DataW H × List MemPlace}
    (h : DataW.trod enc Try.prog W 0 (fun _ => true) true fuel 22 [.slice a len cap] = some y) :
    ∃ (K : Nat → ByteArray) (A : Nat → Bool) (M V : Nat → ByteArray), len ≤ maxLen ∧ (∀ i, (K i).size ≤ maxLen) ∧ (∀ i, (M i).size ≤ maxLen) ∧ (∀ i, (V i).size ≤ maxLen) ∧ val.Ent W a len K A M V := by
  have e0 : ByteArray.empty.size ≤ maxLen := Nat.zero_le _
  rcases Go.Deep.open_slice Try.underlying22 h with ⟨hcs, _⟩ | ⟨x, l, c, m, n, D, Pl, hcs, _, hl, hm, hmm, _, hx⟩
  · simp at hcs
    obtain ⟨rfl, rfl, rfl⟩ := hcs
    exact ⟨fun _ => ByteArray.empty, fun _ => false, fun _ => ByteArray.empty, fun _ => ByteArray.empty, Nat.zero_le _, fun _ => e0, fun _ => e0, fun _ => e0, .inl rfl⟩
  · simp at hcs
    obtain ⟨rfl, rfl, rfl⟩ := hcs
    simp only [if_true] at hmm
    rw [cells30] at hx
    by_cases hz : len = 0
    · exact ⟨fun _ => ByteArray.empty, fun _ => false, fun _ => ByteArray.empty, fun _ => ByteArray.empty, by rw [hz]; exact Nat.zero_le _, fun _ => e0, fun _ => e0, fun _ => e0, .inl hz⟩
    have each : ∀ i, ∃ q : ByteArray × Bool × ByteArray × ByteArray, q.1.size ≤ maxLen ∧ q.2.2.1.size ≤ maxLen ∧ q.2.2.2.size ≤ maxLen ∧ (i < len → W.cell? (x.add (i * 4)) = some (.string q.1) ∧
        W.cell? (x.add (i * 4 + 1)) = some (.bool q.2.1) ∧ W.cell? (x.add (i * 4 + 2)) = some (.string q.2.2.1) ∧ W.cell? (x.add (i * 4 + 3)) = some (.string q.2.2.2)) := by
      intro i
      by_cases hi : i < len
      · obtain ⟨cs, h1, h2⟩ := hx i (by omega)
        obtain ⟨k, a, m, v, b0, b1, b2, c0, c1, c2, c3⟩ := entry_of h1 h2
        exact ⟨(k, a, m, v), b0, b1, b2, fun _ => ⟨c0, c1, c2, c3⟩⟩
      · exact ⟨(ByteArray.empty, false, ByteArray.empty, ByteArray.empty), e0, e0, e0, fun h => absurd h hi⟩
    obtain ⟨f, spec⟩ := choose_all each
    obtain ⟨b, off, spot⟩ := x
    have hspot : spot = none := by simpa [Addr.add] using World.cell?_spot ((spec 0).2.2.2 (by omega)).1
    subst hspot
    have at_ : ∀ i, i < len → val.EntAt W b off i (fun i => (f i).1) (fun i => (f i).2.1) (fun i => (f i).2.2.1) (fun i => (f i).2.2.2) := fun i hi => by
      obtain ⟨c0, c1, c2, c3⟩ := (spec i).2.2.2 hi
      rw [add_plain] at c0 c1 c2 c3
      exact ⟨c0, c1, c2, c3⟩
    exact ⟨fun i => (f i).1, fun i => (f i).2.1, fun i => (f i).2.2.1, fun i => (f i).2.2.2, by omega, fun i => (spec i).1, fun i => (spec i).2.1, fun i => (spec i).2.2.1,
      .inr ⟨b, off, rfl, World.block_lt_of_cell? _ _ (at_ 0 (by omega)).k, at_⟩⟩

set_option maxRecDepth 100000 in
theorem lifted (os : Os) (started : os.Started) (H : Type) (enc : TypeId × Value → H) :
    ReturnsInHanded {} Try.checked os 3 .any (Rows.fnValueSeesThroughAliasKeysSpec.pre6 enc Try.prog Try.f3 Rows.fnValueSeesThroughAliasKeysRow.domain false) (Rows.fnValueSeesThroughAliasKeysSpec.post enc Try.prog Try.f3 false true false false) := by
  refine returnsInHanded_of_change (C := Try.checked) own started (by kernel_rfl) Try.func3
    (ChangeSpec.witness6 (enc := enc) (C := Try.checked) false ⟨#[], #[.slice none 0 0, .string ByteArray.empty], []⟩ 8 (by kernel_rfl) (by kernel_rfl) (by kernel_rfl) (by kernel_rfl)) ?_
  intro W base args ds gs before hval0 hW hcnd _
  have hval : ∀ (j : Nat) t v, Try.f3.params[j]? = some t → args[j]? = some v → Value.okWide Try.prog W .any base t v := hval0
  have hW' := hW
  obtain ⟨p, q, hA0, hV, rfl, hfz, hnd⟩ := hW
  have hA : DataW.TrodAll enc Try.prog W 0 (fun _ => true) true Try.f3.params.toList args.toList ds p := hA0
  rw [Try.params3] at hA hval
  obtain ⟨v0, vs0, d0, ds0, p0, q0, hargs, rfl, rfl, h0, r0⟩ := trodAll_cons hA
  obtain ⟨v1, vs1, d1, ds1, p1, q1, rfl, rfl, rfl, h1, r1⟩ := trodAll_cons r0
  obtain ⟨rfl, rfl, rfl⟩ := trodAll_nil r1
  obtain rfl : args = #[v0, v1] := by cases args; simp_all
  obtain ⟨rfl, rfl⟩ := trodVars_none hV
  obtain ⟨a0, len0, cap0, rfl⟩ := okWide_slice Try.underlying22 (hval 0 22 v0 rfl rfl)
  have k0 := h0
  have lt0 : ∀ x ∈ p0, x.block < W.heap.size := by obtain ⟨m, hm⟩ := k0; exact DataW.trod_lt m _ _ _ hm
  obtain ⟨fuel, hf⟩ := h0
  obtain ⟨K, A, M, V, hn, hK, hM, hVV, hent⟩ := ent_of hf
  have k1 := h1
  have lt1 : ∀ x ∈ p1, x.block < W.heap.size := by obtain ⟨m, hm⟩ := k1; exact DataW.trod_lt m _ _ _ hm
  obtain ⟨s, rfl, rfl, rfl, hs⟩ := open_string Try.underlying9 (hval 1 9 v1 rfl rfl) h1
  clear hA0 hval0
  refine (val.law a0 len0 cap0 s K A M V W hn hs hK hM hVV hent).mono fun e W' ⟨he, bel⟩ => ?_
  subst he
  exact ⟨_, rfl, _, _, _, [], _, [], hW', trodAll_mk1 (shut_bool Try.underlying4 _), (trodAll_cons_mk (Below.trod laidOut (by kernel_rfl) (of_decide_eq_true (by kernel_rfl)) k0 bel lt0) (trodAll_cons_mk (Below.trod laidOut (by kernel_rfl) (of_decide_eq_true (by kernel_rfl)) k1 bel lt1) trodAll_mk0)), rfl, bel.frame _, fun h => by cases h⟩

theorem over : Rows.fnValueSeesThroughAliasKeysRow.holds Try.pinned (OpenSpec.ofChange Rows.fnValueSeesThroughAliasKeysSpec) :=
  OpenClaim.holds_of_wide 3 Try.f3 rfl rfl rfl rfl rfl rfl rfl ⟨rfl, rfl, rfl, rfl, rfl⟩ rfl rfl rfl rfl rfl (by kernel_rfl) Try.func3 (by kernel_rfl)
    (of_decide_eq_true (by kernel_rfl)) (by unfold Func.isWrapper; first | (rw [if_pos (by decide +kernel)]; kernel_rfl) | (rw [if_neg (by decide +kernel)]; exact ⟨rfl, rfl⟩))
    (fun os started H enc _ => lifted os started H enc)

/-- THE STATEMENT. -/
theorem proved : Rows.FnValueSeesThroughAliasKeysSaid := over
end Go.Proofs.Qxb6603575a.fnValueSeesThroughAliasKeys
