/- What 'overlaps' keeps in memory, and what its closure 'reach' does to it. -/
import Derived.Test.YbulkbeeuPair
namespace Go.Proofs.Ybulkbeeu
open Go.RowKit
set_option linter.unusedSimpArgs false
set_option linter.unusedVariables false

/-- Where the blocks lie: the budget's own block bb is the caller's; the others are the call's, below base. -/
structure Lay (N0 bb Pb Sv Pv S Bk base : Nat) : Prop where
  b : bb < N0
  p1 : N0 ≤ Pb
  p2 : N0 ≤ Sv
  p3 : N0 ≤ Pv
  p4 : N0 ≤ S
  p5 : N0 ≤ Bk
  q1 : Pb < base
  q2 : Sv < base
  q3 : Pv < base
  q4 : S < base
  q5 : Bk < base
  d12 : Pb ≠ Sv
  d13 : Pb ≠ Pv
  d14 : Pb ≠ S
  d15 : Pb ≠ Bk
  d23 : Sv ≠ Pv
  d24 : Sv ≠ S
  d25 : Sv ≠ Bk
  d34 : Pv ≠ S
  d35 : Pv ≠ Bk
  d45 : S ≠ Bk

structure Ov (w0 w : World) (bb Pb Sv Pv S Bk base ys L : Nat) (bud : Int) (sn : Nat → Bool) (ao : Option Addr) (cap : Nat) (pend : List Int) : Prop where
  cPb : w.cell? ⟨Pb, 0, none⟩ = some (.pointer (some ⟨bb, 0, none⟩))
  cbb : w.cell? ⟨bb, 0, none⟩ = some (.int .i64 bud)
  fbb : w.frozen? ⟨bb, 0, none⟩ = false
  cSv : w.cell? ⟨Sv, 0, none⟩ = some (.pointer (some ⟨S, 0, none⟩))
  seen : SeenAt w S Bk ys L sn
  cPv : w.cell? ⟨Pv, 0, none⟩ = some (.slice ao pend.length cap)
  fPv : w.frozen? ⟨Pv, 0, none⟩ = false
  own : w.ownsRow base 25 1 (.slice ao pend.length cap) pend.length (pend.map (Value.int .u64))
  gr : w0.grownBy w (some bb)
  sz : base ≤ w.heap.size

section
variable {w0 w w' : World} {N0 bb Pb Sv Pv S Bk base ys L : Nat} {bud : Int} {sn : Nat → Bool} {ao : Option Addr} {cap : Nat} {pend : List Int}

theorem cell_same {w w' : World} {k : Nat} (h : w'.heap[k]? = w.heap[k]?) (o : Nat) : w'.cell? ⟨k, o, none⟩ = w.cell? ⟨k, o, none⟩ := World.cell?_of_block (a := ⟨k, o, none⟩) h
theorem frozen_same {w w' : World} {k : Nat} (h : w'.heap[k]? = w.heap[k]?) (o : Nat) : w'.frozen? ⟨k, o, none⟩ = w.frozen? ⟨k, o, none⟩ := World.frozen?_of_block (a := ⟨k, o, none⟩) h

theorem Ov.ownNe (h : Ov w0 w bb Pb Sv Pv S Bk base ys L bud sn ao cap pend) {k : Nat} (hk : k < base) : some k ≠ (Value.slice ao pend.length cap).ownBlock := by
  intro e
  have := h.own.lt k e.symm
  omega

theorem Ov.aft (h : Ov w0 w bb Pb Sv Pv S Bk base ys L bud sn ao cap pend) (hl : Lay w0.heap.size bb Pb Sv Pv S Bk base) (x : Aft) : Ov w0 (aft w x) bb Pb Sv Pv S Bk base ys L bud sn ao cap pend := by
  have hb := aft_below w x
  have hs := h.gr.size
  have h0 := h.sz
  have e : ∀ k, k < base → (Ybulkbeeu.aft w x).heap[k]? = w.heap[k]? := fun k hk => hb.block k (by omega)
  have := hl.b; have := hl.q1; have := hl.q2; have := hl.q3; have := hl.q4; have := hl.q5; have := hl.p1
  exact ⟨(cell_same (e Pb (by omega)) 0).trans h.cPb, (cell_same (e bb (by omega)) 0).trans h.cbb, (frozen_same (e bb (by omega)) 0).trans h.fbb, (cell_same (e Sv (by omega)) 0).trans h.cSv,
    h.seen.keep (e S (by omega)) (e Bk (by omega)), (cell_same (e Pv (by omega)) 0).trans h.cPv, (frozen_same (e Pv (by omega)) 0).trans h.fPv, own_aft h.own x, grown_trans h.gr (grown_aft w x _), by have := hb.size; omega⟩

theorem Ov.budget (h : Ov w0 w bb Pb Sv Pv S Bk base ys L bud sn ao cap pend) (hl : Lay w0.heap.size bb Pb Sv Pv S Bk base) (b' : Int) : Ov w0 (w.setCell ⟨bb, 0, none⟩ (.int .i64 b')) bb Pb Sv Pv S Bk base ys L b' sn ao cap pend := by
  have := hl.b; have := hl.q1; have := hl.q2; have := hl.q3; have := hl.q4; have := hl.q5; have := hl.p1; have := hl.p2; have := hl.p3; have := hl.p4; have := hl.p5
  have e : ∀ k, k ≠ bb → (w.setCell ⟨bb, 0, none⟩ (.int .i64 b')).heap[k]? = w.heap[k]? := fun k hk => Below.heap_setCell w ⟨bb, 0, none⟩ _ k hk
  have hne : (Value.slice ao pend.length cap).ownBlock ≠ some bb := fun e => h.ownNe (k := bb) (by omega) e.symm
  exact ⟨(cell_same (e Pb (by omega)) 0).trans h.cPb, World.cell?_setCell_same _ _ _ h.cbb, by simpa using h.fbb, (cell_same (e Sv (by omega)) 0).trans h.cSv,
    h.seen.keep (e S (by omega)) (e Bk (by omega)), (cell_same (e Pv (by omega)) 0).trans h.cPv, (frozen_same (e Pv (by omega)) 0).trans h.fPv, h.own.kept (grown_setCell w ⟨bb, 0, none⟩ _) (.inr hne),
    grown_trans h.gr (grown_setCell w ⟨bb, 0, none⟩ _), by have := (grown_setCell w ⟨bb, 0, none⟩ (.int .i64 b')).size; have := h.sz; omega⟩

theorem grown_of_above {a b c : World} {row row' : Option Nat} (h : a.grownBy b row) (k : b.grownBy c row') (hr : ∀ j, row' = some j → a.heap.size ≤ j) : a.grownBy c row :=
  ⟨k.os.trans h.os, k.tape.trans h.tape, k.output.trans h.output, Nat.le_trans h.size k.size,
    fun i hi hne => (k.block i (Nat.lt_of_lt_of_le hi h.size) (fun e => by have := hr i e.symm; omega)).trans (h.block i hi hne)⟩

theorem Ov.saw (h : Ov w0 w bb Pb Sv Pv S Bk base ys L bud sn ao cap pend) (hl : Lay w0.heap.size bb Pb Sv Pv S Bk base) {sn' : Nat → Bool} (hs : SeenAt w' S Bk ys L sn') (hg : w.grownBy w' (some Bk)) :
    Ov w0 w' bb Pb Sv Pv S Bk base ys L bud sn' ao cap pend := by
  have := hl.b; have := hl.q1; have := hl.q2; have := hl.q3; have := hl.q4; have := hl.q5; have := hl.p5; have := h.sz
  have e : ∀ k, k < base → k ≠ Bk → w'.heap[k]? = w.heap[k]? := fun k hk hne => hg.block k (by omega) (by simpa using hne)
  have hne : (Value.slice ao pend.length cap).ownBlock ≠ some Bk := fun e => h.ownNe (k := Bk) (by omega) e.symm
  exact ⟨(cell_same (e Pb (by omega) hl.d15) 0).trans h.cPb, (cell_same (e bb (by omega) (by omega)) 0).trans h.cbb, (frozen_same (e bb (by omega) (by omega)) 0).trans h.fbb, (cell_same (e Sv (by omega) hl.d25) 0).trans h.cSv,
    hs, (cell_same (e Pv (by omega) hl.d35) 0).trans h.cPv, (frozen_same (e Pv (by omega) hl.d35) 0).trans h.fPv, h.own.kept hg (.inr hne),
    grown_of_above h.gr hg (fun j hj => by simp at hj; omega), by have := hg.size; omega⟩

theorem Ov.push (h : Ov w0 w bb Pb Sv Pv S Bk base ys L bud sn ao cap pend) (hl : Lay w0.heap.size bb Pb Sv Pv S Bk base) {c : Int} {ao' : Option Addr} {cap' : Nat}
    (hown : w'.ownsRow base 25 1 (.slice ao' (pend.length + 1) cap') (pend.length + 1) (pend.map (Value.int .u64) ++ [.int .u64 c])) (hg : w.grownBy w' (Value.slice ao pend.length cap).ownBlock) :
    Ov w0 (w'.setCell ⟨Pv, 0, none⟩ (.slice ao' (pend.length + 1) cap')) bb Pb Sv Pv S Bk base ys L bud sn ao' cap' (pend ++ [c]) := by
  have := hl.b; have := hl.q1; have := hl.q2; have := hl.q3; have := hl.q4; have := hl.q5; have := hl.p3; have := h.sz
  have e : ∀ k, k < base → w'.heap[k]? = w.heap[k]? := fun k hk => hg.block k (by omega) (h.ownNe hk)
  have e2 : ∀ k, k < base → k ≠ Pv → (w'.setCell ⟨Pv, 0, none⟩ (.slice ao' (pend.length + 1) cap')).heap[k]? = w.heap[k]? := fun k hk hne => (Below.heap_setCell w' ⟨Pv, 0, none⟩ _ k hne).trans (e k hk)
  have hsz := hg.size
  have hsz2 := (grown_setCell w' ⟨Pv, 0, none⟩ (.slice ao' (pend.length + 1) cap')).size
  have g1 : w0.grownBy w' (some bb) := grown_of_above h.gr hg (fun j hj => by have := h.own.lt j hj; omega)
  refine ⟨(cell_same (e2 Pb (by omega) hl.d13) 0).trans h.cPb, (cell_same (e2 bb (by omega) (by omega)) 0).trans h.cbb, (frozen_same (e2 bb (by omega) (by omega)) 0).trans h.fbb, (cell_same (e2 Sv (by omega) hl.d23) 0).trans h.cSv,
    h.seen.keep (e2 S (by omega) (Ne.symm hl.d34)) (e2 Bk (by omega) (Ne.symm hl.d35)), ?_, ?_, ?_, grown_of_above g1 (grown_setCell w' ⟨Pv, 0, none⟩ _) (fun j hj => by simp at hj; omega), by omega⟩
  · rw [World.cell?_setCell_same _ _ _ ((cell_same (e Pv (by omega)) 0).trans h.cPv)]
    simp
  · rw [World.frozen?_setCell]
    exact (frozen_same (e Pv (by omega)) 0).trans h.fPv
  · have := ownsRow_setCell_below hown (a := ⟨Pv, 0, none⟩) (by simpa using hl.q3) (.slice ao' (pend.length + 1) cap')
    simpa using this

end
end Go.Proofs.Ybulkbeeu
