/- What the law of literals needs of a machine that is being made. -/
import Derived.Test.YbulkbeeuCglob
namespace Go.Proofs.Ybulkbeeu
open Go.RowKit
set_option linter.unusedSimpArgs false
set_option linter.unusedVariables false

theorem Yba.i27 : (Yba.prog.info? 27).map (fun i => (i.zero, i.size, i.bytes)) = some (some (.agg #[.int .u64 0, .int .u64 0, .int .u64 0, .int .u64 0]), 4, 32) := by kernel_rfl

theorem Made.later {w0 w0' w w' w1 : World} {G base : Nat} {cv : Value} {l : List St} {ao : Option Addr} {cap : Nat} (h : Made w0 w w1 G base cv l ao cap)
    (hk : ∀ k, G ≤ k → k < w.heap.size → w'.heap[k]? = w.heap[k]?) (hs : w.heap.size ≤ w'.heap.size) (hg : w0'.grownBy w' none) (h0 : w0'.heap.size ≤ G) : Made w0' w' w' G base cv l ao cap := by
  have a2 := h.gb; have a3 := h.bs
  have e := hk G (Nat.le_refl _) (by omega)
  refine ⟨h0, a2, by omega, (cell_same e 0).trans h.cs, (frozen_same e 0).trans h.cf, (cell_same e 2).trans h.c2, ⟨h.own.1, ?_⟩, fun _ _ _ => rfl, hg⟩
  rcases h.own.2 with hn | ⟨g, c, cur, e2, hb, hgg, rest⟩
  · exact .inl hn
  · exact .inr ⟨g, c, cur, e2, hb, (hk g (by omega) (lt_of_block hgg)).trans hgg, rest⟩

theorem Made.setc2 {w0 w w1 : World} {G base : Nat} {cv : Value} {l : List St} {ao : Option Addr} {cap : Nat} (h : Made w0 w w1 G base cv l ao cap) (v : Value) : Made w0 (w.setCell ⟨G, 2, none⟩ v) w1 G base v l ao cap := by
  have a1 := h.g0; have a2 := h.gb; have a3 := h.bs
  have hsz2 := (grown_setCell w ⟨G, 2, none⟩ v).size
  have e2 : ∀ k, k ≠ G → (w.setCell ⟨G, 2, none⟩ v).heap[k]? = w.heap[k]? := fun k hne => Below.heap_setCell w ⟨G, 2, none⟩ _ k hne
  refine ⟨a1, a2, by omega, ?_, ?_, ?_, ?_, fun k hk hne => (e2 k hne).trans (h.keep k hk hne), grown_of_above h.gr (grown_setCell w ⟨G, 2, none⟩ _) (fun j hj => by simp at hj; omega)⟩
  · have ho : (w.setCell ⟨G, 2, none⟩ v).cell? ⟨G, 0, none⟩ = w.cell? ⟨G, 0, none⟩ := by
      apply World.cell?_setCell_other
      simp
    rw [ho]
    exact h.cs
  · rw [World.frozen?_setCell]
    exact h.cf
  · rw [World.cell?_setCell_same _ _ _ h.c2]
  · have := ownsRow_setCell_below h.own (a := ⟨G, 2, none⟩) (by simpa using a2) v
    simpa using this

theorem Made.glob2 {w0 w w1 : World} {G base cb : Nat} {l : List St} {cl : List Bs} {co ao : Option Addr} {cap cc : Nat} (h : Made w0 w w1 G base (.slice co cl.length cc) l ao cap)
    (hc : ∀ i, i < cl.length → co = some ⟨cb, 0, none⟩ ∧ cb < w.heap.size ∧ ClAt w cb i (cl.getD i Bs.none)) : GlobAt w w.heap.size w.heap.size G ⟨l, cl⟩ ao co cap cc := by
  have a1 := h.g0; have a2 := h.gb; have a3 := h.bs
  refine ⟨by omega, by omega, h.cs, h.c2, fun i hi => ?_, fun i hi => ?_⟩
  · have hi' : i < l.length := hi
    rcases h.own.2 with ⟨_, e2⟩ | ⟨g, c, cur, e2, hb, hg, _⟩
    · omega
    · obtain ⟨rfl, _, rfl⟩ : ao = some ⟨g, 0, none⟩ ∧ True ∧ cap = c := by simpa using e2
      have hlt := lt_of_block hg
      have hc : ∀ j u, (stV (l.getD i St.none))[j]? = some u → j < 4 → w.cell? ⟨g, i * 4 + j, none⟩ = some u := fun j u hu hj => by
        rw [h.own.cellAt (i * 4 + j) (by omega)]
        rw [stVs_get l i j hi' hj]
        exact hu
      exact ⟨g, rfl, hlt, by omega, hc 0 _ rfl (by omega), hc 1 _ rfl (by omega), hc 2 _ rfl (by omega), hc 3 _ rfl (by omega)⟩
  · obtain ⟨e, h1, s0, s1, s2, s3⟩ := hc i hi
    exact ⟨cb, e, h1, by omega, s0, s1, s2, s3⟩

/-- 'g.states = append(g.states, s)': the append; what is not the row's block stays. -/
theorem wpList_push36g {ops : Array Oper} {rest : List Oper} {o : Oper} {a : Act} {Q : Exit → Act → World → Prop} {W : World} (hgd : o.guard = none) (s x : Operand)
    (ho : o.op = .call { callee := .builtin .append, args := #[s, x], argTypes := #[30, 30] })
    (w0 w w1 : World) (G base : Nat) (cv : Value) (l : List St) (ao : Option Addr) (cap : Nat) (h : Made w0 w w1 G base cv l ao cap) (hp : l.length ≤ 1000) (st : St)
    (hW : W = w.alloc (.cells #[.int .u8 st.op, .int .u8 st.b, .int .i64 st.arg, .int .i64 0] 36))
    (hs : a.eval s = .slice ao l.length cap) (hx : a.eval x = .slice (some ⟨w.heap.size, 0, none⟩) 1 1)
    (hK : ∀ k cap' w', Hid (Made w0 (w'.setCell ⟨G, 0, none⟩ (.slice (some ⟨k, 0, none⟩) (l.length + 1) cap')) w1 G base cv (l ++ [st]) (some ⟨k, 0, none⟩) cap') →
      w'.cell? ⟨G, 0, none⟩ = some (.slice ao l.length cap) → w'.frozen? ⟨G, 0, none⟩ = false → Hid (W.grownBy w' (Value.slice ao l.length cap).ownBlock) →
      wpList Yba.prog ops Q rest (a.put o.dst (.slice (some ⟨k, 0, none⟩) (l.length + 1) cap')) w') :
    wpList Yba.prog ops Q (o :: rest) a W := by
  obtain ⟨i0, hi0, hz0, hz1, hz2⟩ := info_parts Yba.i36
  have h2 := h.aft ⟨[.cells #[.int .u8 st.op, .int .u8 st.b, .int .i64 st.arg, .int .i64 0] 36], 0⟩
  have hW2 : W = Ybulkbeeu.aft w ⟨[.cells #[.int .u8 st.op, .int .u8 st.b, .int .i64 st.arg, .int .i64 0] 36], 0⟩ := hW
  rw [← hW2] at h2
  refine wpList_append_lies _ hgd s x 30 ho base 36 i0 _ 4 24 Yba.underlying30 hi0 hz0 hz1 hz2 rfl (by decide) _ l.length (stVs l) hs h2.own ⟨w.heap.size, 0, none⟩ 1 1 (stV st) hx rfl (news36 hW) (news36_one st) (by decide) (by unfold maxLen; omega) (by omega) h2.bs _ rfl ?_
  intro k cap' w' h3 h4 _ _
  have hq := h.gb
  have e : w'.heap[G]? = W.heap[G]? := h4.block G (by have := h2.bs; omega) (h2.ownNe hq)
  exact hK k cap' w' (h2.push h3 h4) ((cell_same e 0).trans h2.cs) ((frozen_same e 0).trans h2.cf) h4

/-- 'g.classes = append(g.classes, c)' at a machine that has none. -/
theorem step_pushC {ops : Array Oper} {o : Oper} {a : Act} {K : Act → World → Prop} {Q : Exit → Act → World → Prop} {E : Prop} {W : World} (hgd : o.guard = none) (s x : Operand)
    (ho : o.op = .call { callee := .builtin .append, args := #[s, x], argTypes := #[29, 29] })
    (w : World) (hW : W = w.alloc (.cells #[.int .u64 0, .int .u64 60129542144, .int .u64 0, .int .u64 0] 27))
    (hs : a.eval s = .slice none 0 0) (hx : a.eval x = .slice (some ⟨w.heap.size, 0, none⟩) 1 1)
    (hK : ∀ k cap' w', Hid (w.grownBy w' none ∧ w.heap.size ≤ k ∧ k < w'.heap.size ∧ ClAt w' k 0 clsC) → (∀ G, G < w.heap.size → w'.cell? ⟨G, 2, none⟩ = w.cell? ⟨G, 2, none⟩ ∧ w'.frozen? ⟨G, 2, none⟩ = w.frozen? ⟨G, 2, none⟩) →
      K (a.put o.dst (.slice (some ⟨k, 0, none⟩) 1 cap')) w') :
    if Region.wanted o (yielded ops a.tmps) = true then Oper.wp Yba.prog o a W K Q else E := by
  obtain ⟨i0, hi0, hz0, hz1, hz2⟩ := info_parts Yba.i27
  have hsz : w.heap.size ≤ W.heap.size := by rw [hW]; simp [go_sem]
  have hg0 : w.grownBy W none := by rw [hW]; exact grown_aft w ⟨[.cells #[.int .u64 0, .int .u64 60129542144, .int .u64 0, .int .u64 0] 27], 0⟩ none
  refine step_append_lies _ hgd s x 29 ho w.heap.size 27 i0 _ 4 32 Yba.underlying29 hi0 hz0 hz1 hz2 rfl (by decide) _ 0 [] hs ⟨rfl, .inl ⟨rfl, rfl⟩⟩ ⟨w.heap.size, 0, none⟩ 1 1 [.int .u64 0, .int .u64 60129542144, .int .u64 0, .int .u64 0] hx rfl ?_ ?_ (by decide) (by unfold maxLen; omega) (by omega) hsz _ rfl ?_
  · intro j u hj
    rw [hW]
    match j, hj with
    | 0, hj => simp at hj; subst hj; simp [Addr.add]
    | 1, hj => simp at hj; subst hj; simp [Addr.add]
    | 2, hj => simp at hj; subst hj; simp [Addr.add]
    | 3, hj => simp at hj; subst hj; simp [Addr.add]
    | j + 4, hj => simp at hj
  · intro u hu
    simp at hu
    rcases hu with rfl | rfl | rfl <;> rfl
  · intro k cap' w' h3 h4 h5 h6
    have hg : w.grownBy w' none := grown_trans hg0 h4
    have hk : w.heap.size ≤ k := by
      rcases h3.2 with ⟨e, _⟩ | ⟨g, c, cur, e, hb, _⟩
      · simp at e
      · simp at e; omega
    have hc : ∀ j u, j < 4 → [Value.int .u64 0, .int .u64 60129542144, .int .u64 0, .int .u64 0][j]? = some u → w'.cell? ⟨k, j, none⟩ = some u := fun j u hj hu => by
      rw [h3.cellAt j (by omega)]
      exact hu
    exact hK k cap' w' ⟨hg, hk, h6, hc 0 _ (by omega) rfl, hc 1 _ (by omega) rfl, hc 2 _ (by omega) rfl, hc 3 _ (by omega) rfl⟩
      fun G hG => ⟨cell_same (hg.block G hG (by simp)) 2, frozen_same (hg.block G hG (by simp)) 2⟩

end Go.Proofs.Ybulkbeeu
