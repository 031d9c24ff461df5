/-
  THE LAW OF append ONTO A SLICE OF BYTES THAT THE CALL OWNS, with its exact frame; as a run, as a step of a plain region, as a step of a region that draws.
-/
import Derived.Test.Qxb6604476aBase
namespace Go.Proofs.Qxb6604476a.num
open Go.RowKit

theorem bcells_len (l : List Int) : (bcells l).length = l.length := by simp [bcells]
theorem bcells_app (l k : List Int) : bcells (l ++ k) = bcells l ++ bcells k := by simp [bcells]
theorem bcells_one (l : List Int) : ∀ u ∈ bcells l, u.oneCell' = true := by
  intro u hu
  obtain ⟨z, _, rfl⟩ := List.mem_map.1 hu
  rfl

theorem own_base {w : World} {b b' : Nat} {v : Value} {n : Nat} {xs : List Value} (h : w.ownsRow b 5 1 v n xs) (hb : b' ≤ b) : w.ownsRow b' 5 1 v n xs := by
  obtain ⟨h1, h2⟩ := h
  refine ⟨h1, ?_⟩
  rcases h2 with h2 | ⟨g, cap, cur, hv, hg, r⟩
  · exact .inl h2
  · exact .inr ⟨g, cap, cur, hv, Nat.le_trans hb hg, r⟩

theorem run_app (w : World) (base : Nat) (v : Value) (l : List Int) (ho : Owns w base v l) (hb : base ≤ w.heap.size) (ad : Addr) (m c : Nat) (news : List Int) (hm : news.length = m) (h0 : 0 < m) (ty : TypeId)
    (hc : ∀ j u, (bcells news)[j]? = some u → w.cell? (ad.add j) = some u) (hlim : l.length + m ≤ 140737488355328) :
    ∃ v' w', (Builtin.append_ #[22, 22] ty #[v, .slice (some ad) m c]).run Try.prog w = .ok v' w' ∧ Owns w' base v' (l ++ news) ∧ App w w' v v' l.length := by
  obtain ⟨i, hi, hz0, hz1, hz2⟩ := info_parts info5
  have hml : l.length + m ≤ maxLen := by unfold maxLen; omega
  have hln : (l ++ news).length = l.length + m := by rw [List.length_append, hm]
  have hnl : (bcells news).length = m * 1 := by rw [bcells_len, hm, Nat.mul_one]
  have fresh : ∀ (v' : Value) (w' : World), w'.ownsRow w.heap.size 5 1 v' (l.length + m) (bcells l ++ bcells news) → w.grownBy w' none → Owns w' base v' (l ++ news) ∧ App w w' v v' l.length := by
    intro v' w' h1 h2
    refine ⟨by unfold Owns; rw [hln, bcells_app]; exact own_base h1 hb, ⟨⟨h2.os, h2.tape, h2.output, h2.size, fun k hk _ => h2.block k hk (by intro e; cases e)⟩, fun g hg o _ => World.cell?_of_block (h2.block g (ho.lt g hg).1 (by intro e; cases e)), ?_⟩⟩
    obtain ⟨_, h1⟩ := h1
    rcases h1 with ⟨_, h⟩ | ⟨g, cap, cur, rfl, hg, _⟩
    · omega
    · exact .inr ⟨g, rfl, hg⟩
  have ho' := ho
  obtain ⟨hl, h⟩ := ho
  rcases h with ⟨rfl, hl0⟩ | ⟨g, cap, cur, rfl, hg, hh, hle, hcm, hcs, htk⟩
  · obtain ⟨v', w', hrun, r1, r2, _⟩ := run_append_own (P := Try.prog) w w.heap.size 22 ty 5 i _ 1 1 Try.underlying22 hi hz0 hz1 hz2 rfl (by decide) (.slice none 0 0) 0 [] (World.ownsRow_nil w _ 5 1) ad m c (bcells news) hnl hc (bcells_one _) (by omega) (by omega) (Nat.le_refl _)
    have e0 : l = [] := List.eq_nil_of_length_eq_zero hl0
    obtain ⟨f1, f2⟩ := fresh v' w' (by rw [e0]; exact r1) r2
    exact ⟨v', w', hrun, f1, f2⟩
  · by_cases hr : l.length + m ≤ cap
    · obtain ⟨w', hrun, r1, r2⟩ := run_append_fits (P := Try.prog) w base 22 ty 5 i 1 Try.underlying22 hi hz1 g l.length cap (bcells l) ho' ad m c (bcells news) hnl hc (bcells_one _) hr
      have ho2 : Owns w' base (.slice (some ⟨g, 0, none⟩) (l.length + m) cap) (l ++ news) := by unfold Owns; rw [hln, bcells_app]; exact r1
      refine ⟨_, w', hrun, ho2, ⟨r2, fun g' hg' o ho3 => ?_, .inl rfl⟩⟩
      cases hg'
      have e1 : l[o]? = some l[o] := List.getElem?_eq_getElem ho3
      obtain ⟨g1, h1, _, c1⟩ := Owns.at_ ho' e1
      cases h1
      obtain ⟨g2, h2, _, c2⟩ := Owns.at_ ho2 (i := o) (z := l[o]) (by rw [List.getElem?_append_left ho3]; exact e1)
      cases h2
      rw [c1, c2]
    · have cells : ∀ j u, (bcells l)[j]? = some u → w.cell? ((⟨g, 0, none⟩ : Addr).add j) = some u := by
        intro j u hj
        obtain ⟨z, hz, rfl⟩ : ∃ z, l[j]? = some z ∧ Value.int .u8 z = u := by
          simp only [bcells, List.getElem?_map, Option.map_eq_some_iff] at hj
          exact hj
        obtain ⟨g1, h1, _, c1⟩ := Owns.at_ ho' hz
        cases h1
        rw [WideShapes.add_plain, Nat.zero_add]
        exact c1
      obtain ⟨v', w', hrun, r1, r2⟩ := run_append_arg_grows (P := Try.prog) w 22 ty 5 i _ 1 1 Try.underlying22 hi hz0 hz1 hz2 rfl (by decide) ⟨g, 0, none⟩ l.length cap (bcells l) (by rw [bcells_len, Nat.mul_one]) cells ad m c (bcells news) hnl hc (by omega) hml (by omega)
      obtain ⟨f1, f2⟩ := fresh v' w' r1 r2
      exact ⟨v', w', hrun, f1, f2⟩

/-- .. as a step of a plain region. -/
theorem wpList_app (w : World) {ops : Array Oper} {rest : List Oper} {o : Oper} {a : Act} {Q : Exit → Act → World → Prop}
    (hg : o.guard = none) (s x : Operand) (hop : o.op = Op.call { callee := Callee.builtin Builtin.append, args := #[s, x], argTypes := #[22, 22] })
    (base : Nat) (v : Value) (l : List Int) (hs : a.eval s = v) (ho : Owns w base v l) (hb : base ≤ w.heap.size) (ad : Addr) (m c : Nat) (news : List Int) (hx : a.eval x = .slice (some ad) m c) (hm : news.length = m) (h0 : 0 < m)
    (hc : ∀ j u, (bcells news)[j]? = some u → w.cell? (ad.add j) = some u) (hlim : l.length + m ≤ 140737488355328)
    (hK : ∀ v' w', Owns w' base v' (l ++ news) → App w w' v v' l.length → wpList Try.prog ops Q rest (a.put o.dst v') w') :
    wpList Try.prog ops Q (o :: rest) a w := by
  refine wpList_plain hg fun K hK' => ?_
  obtain ⟨v', w', hrun, r1, r2⟩ := run_app w base v l ho hb ad m c news hm h0 o.type hc hlim
  unfold Oper.wp
  simp [execOp, hop, resolve, invoke, builtin, hs, hx, hrun, Result.andThen]
  exact hK' _ _ (hK v' w' r1 r2)

/-- .. as a step of a region that draws its order. -/
theorem step_app {ops : Array Oper} {o : Oper} {a : Act} {w : World} {K : Act → World → Prop} {Q : Exit → Act → World → Prop} {E : Prop}
    (hg : o.guard = none) (s x : Operand) (hop : o.op = Op.call { callee := Callee.builtin Builtin.append, args := #[s, x], argTypes := #[22, 22] })
    (base : Nat) (v : Value) (l : List Int) (hs : a.eval s = v) (ho : Owns w base v l) (hb : base ≤ w.heap.size) (ad : Addr) (m c : Nat) (news : List Int) (hx : a.eval x = .slice (some ad) m c) (hm : news.length = m) (h0 : 0 < m)
    (hc : ∀ j u, (bcells news)[j]? = some u → w.cell? (ad.add j) = some u) (hlim : l.length + m ≤ 140737488355328)
    (hK : ∀ v' w', Owns w' base v' (l ++ news) → App w w' v v' l.length → K (a.put o.dst v') w') :
    if Region.wanted o (yielded ops a.tmps) = true then Oper.wp Try.prog o a w K Q else E := by
  have hw : Region.wanted o (yielded ops a.tmps) = true := by simp [Region.wanted, hg]
  rw [if_pos hw]
  obtain ⟨v', w', hrun, r1, r2⟩ := run_app w base v l ho hb ad m c news hm h0 o.type hc hlim
  unfold Oper.wp
  simp [execOp, hop, resolve, invoke, builtin, hs, hx, hrun, Result.andThen]
  exact hK v' w' r1 r2

theorem cell_new (w : World) (c : Array Value) (t : TypeId) (i : Nat) : (w.alloc (.cells c t)).cell? ⟨w.heap.size, i, none⟩ = c[i]? := by
  have h := Go.Deep.blk_alloc_new w (.cells c t)
  unfold World.cell?
  simp only [h]
  rfl

/-- The bytes of a new block. -/
theorem news_at (w : World) (news : List Int) (c : Array Value) (t : TypeId) (b : Nat) (hb : b = w.heap.size) (hc : c.toList = bcells news) : ∀ j u, (bcells news)[j]? = some u → (w.alloc (.cells c t)).cell? ((⟨b, 0, none⟩ : Addr).add j) = some u := by
  intro j u hj
  subst hb
  rw [WideShapes.add_plain, Nat.zero_add, cell_new, ← Array.getElem?_toList, hc]
  exact hj

end Go.Proofs.Qxb6604476a.num
