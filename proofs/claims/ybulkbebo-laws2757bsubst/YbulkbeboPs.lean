/- parts' closures. -/
import Derived.Test.YbulkbeboLeaf
import Derived.OwnWalk
namespace Go.Proofs.Ybulkbebo
open Go.RowKit
open Classical
attribute [local go_sem] neq_func75 neq_func76 neq_nil76 as45_45 as53_45 as63_45 as72_45 as45_63 as53_63 as63_63 as72_63 as45_72 as53_72 as63_72 as72_72 as45_95 as53_95 as63_95 as72_95
set_option linter.unusedSimpArgs false
set_option linter.unusedVariables false

theorem Yba.i49 : (Yba.prog.info? 49).map (fun i => (i.zero, i.size, i.bytes)) = some (some .nilIface, 1, 16) := by kernel_rfl

def kvs (l : List Ky) : List Value := l.map Ky.val

/-- The variable p holds a row that lies at base or behind. -/
structure PsAt (w : World) (p base : Nat) (v : Value) (l : List Ky) : Prop where
  c0 : w.cell? ⟨p, 0, none⟩ = some v
  fr : w.frozen? ⟨p, 0, none⟩ = false
  lt : p < base
  le : base ≤ w.heap.size
  own : w.ownsRow base 49 1 v l.length (kvs l)

theorem PsAt.grw {w w' : World} {p base : Nat} {v : Value} {l : List Ky} (h : PsAt w p base v l) (g : Grw None' w w') : PsAt w' p base v l := by
  have hl : p < w.heap.size := World.block_lt_of_cell? _ _ h.c0
  refine ⟨g.cellOf h.c0 (fun e => e), (g.frozen hl (fun e => e)).trans h.fr, h.lt, Nat.le_trans h.le g.size, h.own.kept g.to_grown ?_⟩
  cases hv : v.ownBlock
  · exact .inl rfl
  · right; simp

theorem PsAt.set {w : World} {p base : Nat} {v : Value} {l : List Ky} (h : PsAt w p base v l) (a : Addr) (u : Value) (hp : p ≠ a.block) (ho : v.ownBlock ≠ some a.block) : PsAt (w.setCell a u) p base v l := by
  have hl : p < w.heap.size := World.block_lt_of_cell? _ _ h.c0
  have g := grown_setCell w a u
  have hb := g.block p hl (by simpa using hp)
  refine ⟨(cell_same hb 0).trans h.c0, (frozen_same hb 0).trans h.fr, h.lt, Nat.le_trans h.le g.size, h.own.kept g ?_⟩
  cases hv : v.ownBlock
  · exact .inl rfl
  · right; rw [← hv]; exact ho

theorem news_of_cells {w : World} {B : Nat} {cs : Array Value} {t : TypeId} (hb : w.heap[B]? = some (.cells cs t (0, 0))) : ∀ j u, cs.toList[j]? = some u → w.cell? ((⟨B, 0, none⟩ : Addr).add j) = some u := World.news_of_block hb

theorem wpList_psh {ops : Array Oper} {rest : List Oper} {o : Oper} {a : Act} {Q : Exit → Act → World → Prop} {W : World} (hgd : o.guard = none) (s x : Operand)
    (ho : o.op = .call { callee := .builtin .append, args := #[s, x], argTypes := #[58, 58] })
    (p base : Nat) (v : Value) (l ks : List Ky) (h : PsAt W p base v l) (hn : l.length + ks.length ≤ 1000) (hk : 0 < ks.length)
    (hs : a.eval s = v) (B : Nat) (hx : a.eval x = .slice (some ⟨B, 0, none⟩) ks.length ks.length) (cs : Array Value) (hcs : cs.toList = kvs ks) (hB : W.heap[B]? = some (.cells cs 49 (0, 0)))
    (hK : ∀ k cap w', w'.cell? ⟨p, 0, none⟩ = some v → w'.frozen? ⟨p, 0, none⟩ = false →
      Hid (PsAt (w'.setCell ⟨p, 0, none⟩ (.slice (some ⟨k, 0, none⟩) (l.length + ks.length) cap)) p base (.slice (some ⟨k, 0, none⟩) (l.length + ks.length) cap) (l ++ ks)) → Hid (Grw (fun j => v.ownBlock = some j) W w') → Hid (v.ownBlock = some k ∨ k = W.heap.size) →
      wpList Yba.prog ops Q rest (a.put o.dst (.slice (some ⟨k, 0, none⟩) (l.length + ks.length) cap)) w') :
    wpList Yba.prog ops Q (o :: rest) a W := by
  obtain ⟨i0, hi0, hz0, hz1, hz2⟩ := info_parts Yba.i49
  have hlp : p < W.heap.size := World.block_lt_of_cell? _ _ h.c0
  have hne : some p ≠ v.ownBlock := fun e => by
    have := (h.own.lt p e.symm).1
    have := h.lt
    omega
  refine wpList_append_lies _ hgd s x 58 ho base 49 i0 _ 1 16 Yba.underlying58 hi0 hz0 hz1 hz2 rfl (by decide) _ l.length (kvs l) hs h.own ⟨B, 0, none⟩ ks.length ks.length (kvs ks) hx (by simp [kvs]) ?_ ?_ hk (by unfold maxLen; omega) (by omega) h.le _ rfl ?_
  · intro j u hj
    exact news_of_cells hB j u (by rw [hcs]; exact hj)
  · intro u hu
    simp only [kvs, List.mem_map] at hu
    obtain ⟨k, _, rfl⟩ := hu
    rfl
  · intro k cap' w' h3 h4 h5 _
    have c1 : w'.cell? ⟨p, 0, none⟩ = some v := (cell_same (h4.block p hlp hne) 0).trans h.c0
    have c2 : w'.frozen? ⟨p, 0, none⟩ = false := (frozen_same (h4.block p hlp hne) 0).trans h.fr
    refine hK k cap' w' c1 c2 ⟨World.cell?_setCell_same _ _ _ c1, by rw [World.frozen?_setCell]; exact c2, h.lt, ?_, ?_⟩ ?_ h5
    · have := h4.size; have := h.le; have := (grown_setCell w' ⟨p, 0, none⟩ (.slice (some ⟨k, 0, none⟩) (l.length + ks.length) cap')).size; omega
    · have h5 := ownsRow_setCell_below h3 (a := ⟨p, 0, none⟩) h.lt (.slice (some ⟨k, 0, none⟩) (l.length + ks.length) cap')
      have e1 : (l ++ ks).length = l.length + ks.length := List.length_append
      have e2 : kvs (l ++ ks) = kvs l ++ kvs ks := by simp [kvs]
      rw [e1, e2]
      exact h5
    · exact (Grw.refl _ W).grown h4 (fun j hj _ => hj)

theorem typ20_any (w : World) (p base : Nat) (v : Value) (l : List Ky) (k : Ky) (h : PsAt w p base v l) (hn : l.length ≤ 100) :
    Calls Yba.prog 20 #[k.val, .pointer (some ⟨p, 0, none⟩)] w fun e w' => e = .returned k.val ∧ Grw (fun j => j = p ∨ v.ownBlock = some j) w w' ∧ ∃ v', PsAt w' p base v' (l ++ [k]) ∧ ∀ j, v'.ownBlock = some j → v.ownBlock = some j ∨ w.heap.size ≤ j := by
  have hl : p < w.heap.size := World.block_lt_of_cell? _ _ h.c0
  have c0 := h.c0
  have fr := h.fr
  have hW : Hid (PsAt (w.alloc (.cells #[k.val] 49)) p base v l) := h.grw ((Grw.refl _ w).alloc _)
  have hB : Hid ((w.alloc (.cells #[k.val] 49)).heap[w.heap.size]? = some (.cells #[k.val] 49 (0, 0))) := heap_alloc_new w _
  have hle := h.le
  have how : Hid (∀ j, v.ownBlock = some j → base ≤ j ∧ j < w.heap.size) := h.own.lt
  have hlt := h.lt
  clear h
  have Hle : Hid (base ≤ w.heap.size ∧ p < base) := ⟨hle, hlt⟩
  clear hle hlt
  unfold Ky.val
  unfold Ky.val at hW hB
  go_enter Yba.func20, Yba.ntmps20
  go_wp2_with (at_builtin; refine wpList_psh rfl (.tmp 4) (.tmp 6) rfl p base v l [k] hW.out (by simp; omega) (by simp) rfl w.heap.size rfl _ rfl hB.out ?_; intro g cap w' c1 c2 hp hg hq)
  go_ret
  refine ⟨rfl, ?_, _, hp.out, fun j hj => ?_⟩
  · exact (((Grw.refl (fun j => j = p ∨ v.ownBlock = some j) w).alloc _).step hg.out (fun j _ e => .inr e)).setCell (fun _ => .inl rfl) _
  · have e2 : g = j := by simpa [Value.ownBlock] using hj
    subst e2
    rcases hq.out with h | h
    · exact .inl h
    · right
      rw [h]
      simp only [World.alloc, Array.size_push]
      omega

set_option maxRecDepth 100000 in
set_option maxHeartbeats 2000000 in
theorem annot21_any (w : World) (p base : Nat) (v : Value) (l : List Ky) (T V : Ky) (h : PsAt w p base v l) (hn : l.length ≤ 100) :
    Calls Yba.prog 21 #[ann T V, .pointer (some ⟨p, 0, none⟩)] w fun e w' => e = .returned (ann T V) ∧ Grw (fun j => j = p ∨ v.ownBlock = some j) w w' ∧ ∃ v', PsAt w' p base v' (l ++ [T, V]) ∧ ∀ j, v'.ownBlock = some j → v.ownBlock = some j ∨ w.heap.size ≤ j := by
  have hl : p < w.heap.size := World.block_lt_of_cell? _ _ h.c0
  have c0 := h.c0
  have fr := h.fr
  have hle := h.le
  have how : Hid (∀ j, v.ownBlock = some j → base ≤ j ∧ j < w.heap.size) := h.own.lt
  have hlt := h.lt
  obtain ⟨t1, t2⟩ := T
  obtain ⟨v1, v2⟩ := V
  have hW : Hid (∀ a b : Obj, PsAt (((w.alloc a).alloc b).alloc (.cells #[(Ky.mk t1 t2).val, (Ky.mk v1 v2).val] 49)) p base v l) := fun a b => h.grw ((((Grw.refl _ w).alloc _).alloc _).alloc _)
  have hB : Hid (∀ a b : Obj, (((w.alloc a).alloc b).alloc (.cells #[(Ky.mk t1 t2).val, (Ky.mk v1 v2).val] 49)).heap[w.heap.size + 1 + 1]? = some (.cells #[(Ky.mk t1 t2).val, (Ky.mk v1 v2).val] 49 (0, 0))) := fun a b => by
    have := heap_alloc_new ((w.alloc a).alloc b) (.cells #[(Ky.mk t1 t2).val, (Ky.mk v1 v2).val] 49)
    simpa only [World.alloc, Array.size_push] using this
  clear h
  have l1 : p < w.heap.size + 1 := by omega
  have l2 : p < w.heap.size + 1 + 1 := by omega
  have Hle : Hid (base ≤ w.heap.size ∧ p < base) := ⟨hle, hlt⟩
  clear hle hlt
  have m1 : p ≠ w.heap.size := by omega
  have m2 : p ≠ w.heap.size + 1 := by omega
  unfold ann
  unfold Ky.val
  unfold Ky.val at hW hB
  simp only at *
  go_enter Yba.func21, Yba.ntmps21
  go_wp2_with (at_builtin; refine wpList_psh rfl (.tmp 4) (.tmp 9) rfl p base v l [⟨t1, t2⟩, ⟨v1, v2⟩] (hW.out _ _) (by simp; omega) (by simp) rfl (w.heap.size + 1 + 1) rfl _ rfl (hB.out _ _) ?_; intro g cap w' c1 c2 hp hg hq; have n0 := hg.out.block w.heap.size (by go_simp) (fun e => Nat.lt_irrefl _ (how.out _ e).2); have n1 := hg.out.block (w.heap.size + 1) (by go_simp) (fun e => by have := (how.out _ e).2; omega); have d1 : w'.cell? ⟨w.heap.size, 0, none⟩ = some (.iface t1 (.pointer (some ⟨t2, 0, none⟩))) := (cell_same n0 0).trans (by go_simp); have d2 : w'.cell? ⟨w.heap.size, 1, none⟩ = some (.iface v1 (.pointer (some ⟨v2, 0, none⟩))) := (cell_same n0 1).trans (by go_simp); have d3 : w'.cell? ⟨w.heap.size + 1, 0, none⟩ = some .nilIface := (cell_same n1 0).trans (by go_simp); have d4 : w'.cell? ⟨w.heap.size + 1, 1, none⟩ = some .nilIface := (cell_same n1 1).trans (by go_simp); have d5 : w'.frozen? ⟨w.heap.size + 1, 0, none⟩ = false := (frozen_same n1 0).trans (by go_simp); have d6 : w'.frozen? ⟨w.heap.size + 1, 1, none⟩ = false := (frozen_same n1 1).trans (by go_simp); clear n0 n1)
  have hq2 : ∀ o, (Value.slice (some ⟨g, 0, none⟩) (l.length + 2) cap).ownBlock ≠ some (Addr.block ⟨w.heap.size + 1, o, none⟩) := fun o e => by
    have e2 : g = w.heap.size + 1 := by simpa [Value.ownBlock] using e
    rcases hq.out with h | h
    · have := (how.out _ h).2; omega
    · have h3 : g = w.heap.size + 3 := by rw [h]; simp only [World.alloc, Array.size_push]
      omega
  refine bodyPost_ret (v := .agg #[.iface t1 (.pointer (some ⟨t2, 0, none⟩)), .iface v1 (.pointer (some ⟨v2, 0, none⟩))]) (by simp [results, Yba.results21, go_sem, d3, d4]) rfl ⟨rfl, ?_, (Value.slice (some ⟨g, 0, none⟩) (l.length + 2) cap), ?_, fun j hj => ?_⟩
  · exact (((((((Grw.refl (fun j => j = p ∨ v.ownBlock = some j) w).alloc _).alloc _).alloc _).step hg.out (fun j _ e => .inr e)).setCell (a := ⟨p, 0, none⟩) (fun _ => .inl rfl) _).setCell (a := ⟨w.heap.size + 1, 0, none⟩) (fun e => absurd e (by simp)) _).setCell (a := ⟨w.heap.size + 1, 1, none⟩) (fun e => absurd e (by simp)) _
  · exact (hp.out.set ⟨w.heap.size + 1, 0, none⟩ _ m2 (hq2 0)).set ⟨w.heap.size + 1, 1, none⟩ _ m2 (hq2 1)
  · have e2 : g = j := by simpa [Value.ownBlock] using hj
    subst e2
    rcases hq.out with h | h
    · exact .inl h
    · right
      rw [h]
      simp only [World.alloc, Array.size_push]
      omega
end Go.Proofs.Ybulkbebo
