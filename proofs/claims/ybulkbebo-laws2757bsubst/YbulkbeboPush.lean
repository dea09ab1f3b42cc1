/- Apply's push. -/
import Derived.Test.YbulkbeboReb2
namespace Go.Proofs.Ybulkbebo
open Go.RowKit
open Classical
attribute [local go_sem] neq_func75 neq_func76 neq_nil76 as45_45 as53_45 as63_45 as72_45 as45_63 as53_63 as63_63 as72_63 as45_72 as53_72 as63_72 as72_72 as45_95 as53_95 as63_95 as72_95 eql58_none eql58_some eql66_none eql66_some
set_option linter.unusedSimpArgs false
set_option linter.unusedVariables false

theorem Yba.i109 : (Yba.prog.info? 109).map (fun i => (i.zero, i.size, i.bytes)) = some (some (.agg #[.nilIface, .slice none 0 0, .int .i64 0]), 3, 48) := by kernel_rfl

structure Fr where
  k : Ky
  pv : Value
  nx : Nat

def Fr.cells (f : Fr) : List Value := [f.k.val, f.pv, .int .i64 (f.nx : Int)]
def fcs (l : List Fr) : List Value := l.flatMap Fr.cells
theorem fcs_length (l : List Fr) : (fcs l).length = l.length * 3 := by
  induction l with
  | nil => rfl
  | cons x l ih => simp only [fcs, List.flatMap_cons, List.length_append] at *; rw [ih]; simp [Fr.cells]; omega
theorem fcs_append (l l' : List Fr) : fcs (l ++ l') = fcs l ++ fcs l' := by simp [fcs]

/-- The stack. -/
structure StkAt (w : World) (sv base : Nat) (v : Value) (l : List Fr) : Prop where
  c0 : w.cell? ⟨sv, 0, none⟩ = some v
  fr : w.frozen? ⟨sv, 0, none⟩ = false
  lt : sv < base
  le : base ≤ w.heap.size
  own : w.ownsRow base 109 3 v l.length (fcs l)

theorem StkAt.grwM {M : Nat → Prop} {w w' : World} {sv base : Nat} {v : Value} {l : List Fr} (h : StkAt w sv base v l) (g : Grw M w w') (hp : ¬ M sv) (ho : ∀ j, v.ownBlock = some j → ¬ M j) : StkAt w' sv base v l := by
  have hl : sv < w.heap.size := World.block_lt_of_cell? _ _ h.c0
  exact ⟨g.cellOf h.c0 hp, (g.frozen hl hp).trans h.fr, h.lt, Nat.le_trans h.le g.size, own_same h.own (fun j hj => g.block j (h.own.lt j hj).2 (ho j hj))⟩

/-- Where the parts of the pushed type lie. -/
def PvAt (w w' : World) (v' pv : Value) (n : Nat) (z : Nat → Ky) : Prop :=
  (pv = .slice none 0 0 ∧ n = 0) ∨ ∃ g cap, pv = .slice (some ⟨g, 0, none⟩) n cap ∧ w.heap.size ≤ g ∧ g < w'.heap.size ∧ n ≤ cap ∧ v'.ownBlock ≠ some g ∧ ∀ i, i < n → w'.cell? ⟨g, i, none⟩ = some (z i).val

def PushPost (w : World) (k : Ky) (sv base : Nat) (v : Value) (l : List Fr) (n : Nat) (z : Nat → Ky) (w' : World) : Prop :=
  ∃ v' pv, StkAt w' sv base v' (l ++ [⟨k, pv, 0⟩]) ∧ Grw (fun j => j = sv ∨ v.ownBlock = some j) w w' ∧ PvAt w w' v' pv n z ∧ ∀ j, v'.ownBlock = some j → v.ownBlock = some j ∨ w.heap.size ≤ j

/-- 'append(stack, frame{..})'. -/
theorem step_push {ops : Array Oper} {o : Oper} {a : Act} {W : World} {K : Act → World → Prop} {Q : Exit → Act → World → Prop} {E : Prop} (hgd : o.guard = none) (s x : Operand)
    (ho : o.op = .call { callee := .builtin .append, args := #[s, x], argTypes := #[94, 94] })
    (w w1 : World) (k : Ky) (sv base : Nat) (v pv : Value) (l : List Fr) (n : Nat) (z : Nat → Ky) (hk : pv.oneCell' = true) (h : StkAt w sv base v l) (hl : l.length ≤ 1000) (g1 : Grw None' w w1) (hP : RowP w1 pv w.heap.size n (fun j => (z j).val))
    (hW : W = w1.alloc (.cells #[k.val, pv, .int .i64 0] 109))
    (hs : a.eval s = v) (hx : a.eval x = .slice (some ⟨w1.heap.size, 0, none⟩) 1 1)
    (hK : ∀ g cap w', w'.cell? ⟨sv, 0, none⟩ = some v → w'.frozen? ⟨sv, 0, none⟩ = false → Hid (PushPost w k sv base v l n z (w'.setCell ⟨sv, 0, none⟩ (.slice (some ⟨g, 0, none⟩) (l.length + 1) cap))) → K (a.put o.dst (.slice (some ⟨g, 0, none⟩) (l.length + 1) cap)) w') :
    if Region.wanted o (yielded ops a.tmps) = true then Oper.wp Yba.prog o a W K Q else E := by
  obtain ⟨i0, hi0, hz0, hz1, hz2⟩ := info_parts Yba.i109
  have hB : W.heap[w1.heap.size]? = some (.cells #[k.val, pv, .int .i64 0] 109 (0, 0)) := by rw [hW]; exact heap_alloc_new w1 _
  have gW : Grw None' w1 W := by rw [hW]; exact (Grw.refl _ w1).alloc _
  have sW : W.heap.size = w1.heap.size + 1 := by rw [hW]; simp only [World.alloc, Array.size_push]
  have h2 : StkAt W sv base v l := h.grwM (g1.trans gW) (fun e => e) (fun _ _ e => e)
  have hlt := h.lt
  have hlw : sv < w.heap.size := World.block_lt_of_cell? _ _ h.c0
  have hown := h.own.lt
  refine step_append_lies _ hgd s x 94 ho base 109 i0 _ 3 48 Yba.underlying94 hi0 hz0 hz1 hz2 rfl (by decide) _ l.length (fcs l) hs h2.own ⟨w1.heap.size, 0, none⟩ 1 1 [k.val, pv, .int .i64 0] hx rfl ?_ ?_ (by decide) (by unfold maxLen; omega) (by omega) h2.le _ rfl ?_
  · intro j u hj
    exact news_of_cells hB j u (by simpa using hj)
  · intro u hu
    simp only [List.mem_cons, List.not_mem_nil, or_false] at hu
    rcases hu with rfl | rfl | rfl
    · rfl
    · exact hk
    · rfl
  · intro g cap w' h3 h4 h5 h6
    have hne : some sv ≠ v.ownBlock := fun e => by have := (hown sv e.symm).1; omega
    have hb := h4.block sv (by have := g1.size; omega) hne
    have c1 : w'.cell? ⟨sv, 0, none⟩ = some v := (cell_same hb 0).trans h2.c0
    have c2 : w'.frozen? ⟨sv, 0, none⟩ = false := (frozen_same hb 0).trans h2.fr
    have s3 := h4.size
    have s4 := g1.size
    have hsw : (w'.setCell ⟨sv, 0, none⟩ (.slice (some ⟨g, 0, none⟩) (l.length + 1) cap)).heap.size = w'.heap.size := by simp [World.setCell]
    refine hK g cap w' c1 c2 ⟨_, pv, ⟨World.cell?_setCell_same _ _ _ c1, by rw [World.frozen?_setCell]; exact c2, hlt, by rw [hsw]; have := h2.le; omega, ?_⟩, ?_, ?_, ?_⟩
    · have h7 := ownsRow_setCell_below h3 (a := ⟨sv, 0, none⟩) hlt (.slice (some ⟨g, 0, none⟩) (l.length + 1) cap)
      have e1 : (l ++ [(⟨k, pv, 0⟩ : Fr)]).length = l.length + 1 := by simp
      have e2 : fcs (l ++ [⟨k, pv, 0⟩]) = fcs l ++ [k.val, pv, .int .i64 0] := by rw [fcs_append]; rfl
      rw [e1, e2]
      exact h7
    · exact (((g1.trans gW).mono (fun _ _ e => e.elim)).grown h4 (fun j hj _ => .inr hj)).setCell (a := ⟨sv, 0, none⟩) (fun _ => .inl rfl) _
    · rcases hP with hP | ⟨gp, capp, p1, p2, p3, p4, p5⟩
      · exact .inl hP
      · refine .inr ⟨gp, capp, p1, p2, by rw [hsw]; omega, p4, fun e => ?_, fun i hi => ?_⟩
        · have e2 : g = gp := by simpa [Value.ownBlock] using e
          subst e2
          rcases h5 with h5 | h5
          · have := (hown _ h5).2; omega
          · omega
        · have hgo : v.ownBlock ≠ some gp := fun e => by have := (hown gp e).2; omega
          have q1 : w'.cell? ⟨gp, i, none⟩ = some (z i).val := (cell_same (h4.block gp (by omega) (fun e => hgo e.symm)) i).trans (gW.cellOf (p5 i hi) (fun e => e))
          rw [World.cell?_setCell_other _ _ _ _ (by first | (simp; done) | (simp; omega))]
          exact q1
    · intro j hj
      have e2 : g = j := by simpa [Value.ownBlock] using hj
      subst e2
      rcases h5 with h5 | h5
      · exact .inl h5
      · right; omega

theorem rowP_form {w : World} {v : Value} {S0 m : Nat} {f : Nat → Value} (h : RowP w v S0 m f) : ∃ ao n' cap, v = .slice ao n' cap := by
  rcases h with ⟨rfl, _⟩ | ⟨g, cap, rfl, _⟩ <;> exact ⟨_, _, _, rfl⟩

theorem rowP_one {w : World} {v : Value} {S0 m : Nat} {f : Nat → Value} (h : RowP w v S0 m f) : v.oneCell' = true := by
  rcases h with ⟨rfl, _⟩ | ⟨g, cap, rfl, _⟩ <;> rfl

set_option maxRecDepth 100000 in
set_option maxHeartbeats 4000000 in
theorem push15 (w : World) (k : Ky) (dv sv base : Nat) (v : Value) (l : List Fr) (n : Nat) (z : Nat → Ky) (hk : k.ok) (h : StkAt w sv base v l) (hl : l.length ≤ 1000)
    (hp : ∀ W, Grw None' w W → W.heap.size = w.heap.size → Calls Yba.prog 17 #[k.val] W (PartsPost W n z)) :
    Calls Yba.prog 15 #[k.val, fp dv, fp sv] w (fun e w' => e = .returned (.tuple #[]) ∧ PushPost w k sv base v l n z w') := by
  have c0 := h.c0
  have fr := h.fr
  have lsv : sv < w.heap.size := World.block_lt_of_cell? _ _ h.c0
  have Hh : Hid _ := h
  have Hp : Hid _ := hp
  clear h hp
  unfold fp
  obtain ⟨t, b⟩ := k
  unfold Ky.val at Hp ⊢
  simp only at *
  rcases hk with hk | hk | hk | hk <;> (simp only at hk; subst hk) <;>
  · go_enter Yba.func15, Yba.ntmps15
    go_wp2_with fail
    go_region_law (first | (refine step_push rfl (.tmp 49) (.tmp 54) rfl w w1 ⟨_, b⟩ sv base v (.slice ao n' cp) l n z rfl Hh.out hl HgP.out HrP.out rfl (by simp [Act.eval, Act.put]) (by simp [Act.eval, Act.put]) ?_; intro g2 cap2 w2 d1 d2 hq2) | (go_simp; refine Calls.mono (Hp.out _ (Grw.refl _ _).drew rfl) ?_; rintro e w1 ⟨pv, rfl, hg1, hr1⟩; have HgP : Hid (Grw None' w w1) := (Grw.refl _ w).drew.trans hg1; have HrP : Hid _ := hr1; have e0 : w1.cell? ⟨sv, 0, none⟩ = some v := HgP.out.cellOf c0 (fun e => e); have e1 : sv < w1.heap.size := World.block_lt_of_cell? _ _ e0; obtain ⟨ao, n', cp, rfl⟩ := rowP_form hr1; clear hg1 hr1))
    all_goals
      go_wp2_with fail
      go_end0
      exact ⟨rfl, hq2.out⟩
end Go.Proofs.Ybulkbebo
