/- The head of the search, and the middle of a round: what holds in memory. -/
import Derived.Test.YbulkbeeuOvS
namespace Go.Proofs.Ybulkbeeu
open Go.RowKit
set_option linter.unusedSimpArgs false
set_option linter.unusedVariables false

theorem cell_al {w : World} {a : Addr} {v : Value} (h : w.cell? a = some v) (o : Obj) : (w.alloc o).cell? a = some v := (World.cell?_alloc_lt w o a (World.block_lt_of_cell? w a h)).trans h
theorem cell_dr {w : World} {a : Addr} {v : Value} (h : w.cell? a = some v) : w.drew.cell? a = some v := h

def Head1 (w w1 wc : World) (ys L : Nat) (s7 : Value) : Prop := ∃ Sv S Bk, s7 = .pointer (some ⟨Sv, 0, none⟩) ∧ w.heap.size < Sv ∧ w.heap.size < S ∧ w.heap.size < Bk ∧ Sv ≠ S ∧ Sv ≠ Bk ∧ Sv < wc.heap.size ∧ S < wc.heap.size ∧ Bk < wc.heap.size ∧
  wc.cell? ⟨Sv, 0, none⟩ = some (.pointer (some ⟨S, 0, none⟩)) ∧ SeenAt wc S Bk ys L (fun _ => false) ∧ Below (w.heap.size + 1) w1 wc

theorem size_al (w : World) (o : Obj) : (w.alloc o).heap.size = w.heap.size + 1 := by simp

theorem head1_a (w : World) (o : Obj) (ys L : Nat) : Head1 w (w.alloc o) ((((w.alloc o).alloc (.cells (madeCells #[.int .u64 0] L) 25)).alloc (.cells #[.int .i64 ys, .slice (some ⟨w.heap.size + 1, 0, none⟩) L L, .map none] 64)).alloc (.cells #[.pointer (some ⟨w.heap.size + 1 + 1, 0, none⟩)] 46)).drew
    ys L (.pointer (some ⟨w.heap.size + 1 + 1 + 1, 0, none⟩)) := by
  have hs := SeenAt.made (w.alloc o) ys L
  rw [size_al] at hs
  refine ⟨_, w.heap.size + 1 + 1, w.heap.size + 1, rfl, by omega, by omega, by omega, by omega, by omega, by simp, by simp, by simp, by simp [go_sem], ?_, ?_⟩
  · exact hs.keep (Below.heap_alloc _ _ _ (by simp)) (Below.heap_alloc _ _ _ (by simp))
  · exact ((((Below.refl _ _).alloc (by simp) _).alloc (by simp) _).alloc (by simp) _).drew

theorem head1_b (w : World) (o : Obj) (ys L : Nat) : Head1 w (w.alloc o) ((((w.alloc o).alloc (.cells #[.pointer (some ⟨w.heap.size + 1 + 1 + 1, 0, none⟩)] 46)).alloc (.cells (madeCells #[.int .u64 0] L) 25)).alloc (.cells #[.int .i64 ys, .slice (some ⟨w.heap.size + 1 + 1, 0, none⟩) L L, .map none] 64)).drew
    ys L (.pointer (some ⟨w.heap.size + 1, 0, none⟩)) := by
  have hs := SeenAt.made ((w.alloc o).alloc (.cells #[.pointer (some ⟨w.heap.size + 1 + 1 + 1, 0, none⟩)] 46)) ys L
  rw [size_al, size_al] at hs
  refine ⟨_, w.heap.size + 1 + 1 + 1, w.heap.size + 1 + 1, rfl, by omega, by omega, by omega, by omega, by omega, by simp, by simp, by simp, ?_, ?_, ?_⟩
  · exact cell_dr (cell_al (cell_al (by simp) _) _)
  · exact hs.keep rfl rfl
  · exact ((((Below.refl _ _).alloc (by simp) _).alloc (by simp) _).alloc (by simp) _).drew

theorem ov_start (w wc : World) (bb Sv S Bk ys L : Nat) (hbb : bb < w.heap.size) (hbc : w.cell? ⟨bb, 0, none⟩ = some (.int .i64 1073741824)) (hbf : w.frozen? ⟨bb, 0, none⟩ = false)
    (h1 : w.heap.size < Sv) (h2 : w.heap.size < S) (h3 : w.heap.size < Bk) (h4 : Sv < wc.heap.size) (h5 : S < wc.heap.size) (h6 : Bk < wc.heap.size) (hc : wc.cell? ⟨Sv, 0, none⟩ = some (.pointer (some ⟨S, 0, none⟩)))
    (hs : SeenAt wc S Bk ys L (fun _ => false)) (hb : Below (w.heap.size + 1) (w.alloc (.cells #[.pointer (some ⟨bb, 0, none⟩)] 38)) wc) :
    Ov w (wc.alloc (.cells #[.slice none 0 0] 48)) bb w.heap.size Sv wc.heap.size S Bk (wc.heap.size + 1) ys L 1073741824 (fun _ => false) none 0 [] := by
  have e : ∀ k, k < w.heap.size + 1 → (wc.alloc (.cells #[.slice none 0 0] 48)).heap[k]? = (w.alloc (.cells #[.pointer (some ⟨bb, 0, none⟩)] 38)).heap[k]? := fun k hk => (Below.heap_alloc _ _ _ (by omega)).trans (hb.block k hk)
  have e' : ∀ k, k < w.heap.size → (wc.alloc (.cells #[.slice none 0 0] 48)).heap[k]? = w.heap[k]? := fun k hk => (e k (by omega)).trans (Below.heap_alloc _ _ _ hk)
  have hsz := hb.size
  rw [size_al] at hsz
  refine ⟨(cell_same (e _ (by omega)) 0).trans (by simp), (cell_same (e' bb hbb) 0).trans hbc, (frozen_same (e' bb hbb) 0).trans hbf, cell_al hc _, hs.keep (Below.heap_alloc _ _ _ h5) (Below.heap_alloc _ _ _ h6), by simp, by simp, World.ownsRow_nil _ _ _ _, ?_, by simp⟩
  exact ⟨hb.os, hb.tape, hb.output, by simp; omega, fun k hk _ => e' k hk⟩

theorem lay_start (w wc : World) (bb Sv S Bk : Nat) (hbb : bb < w.heap.size) (h1 : w.heap.size < Sv) (h2 : w.heap.size < S) (h3 : w.heap.size < Bk) (h4 : Sv < wc.heap.size) (h5 : S < wc.heap.size) (h6 : Bk < wc.heap.size)
    (n1 : Sv ≠ S) (n2 : Sv ≠ Bk) (n3 : S ≠ Bk) : Lay w.heap.size bb w.heap.size Sv wc.heap.size S Bk (wc.heap.size + 1) := by
  constructor <;> omega

theorem snoc_cases : ∀ (l : List Nd), l = [] ∨ ∃ a b, l = a ++ [b]
  | [] => .inl rfl
  | x :: l => by
    right
    rcases snoc_cases l with rfl | ⟨a, b, rfl⟩
    · exact ⟨[], x, rfl⟩
    · exact ⟨x :: a, b, rfl⟩

def OverPost (w : World) (bb : Nat) (M N : Mach) (e : Ending) (w' : World) : Prop :=
  ∃ b, e = .returned (.bool b) ∧ (b = true ↔ Meet M N) ∧ w.grownBy w' (some bb) ∧ ∃ bud : Int, 0 < bud ∧ w'.cell? ⟨bb, 0, none⟩ = some (.int .i64 bud)

theorem Ov.last {w0 w : World} {bb Pb Sv Pv S Bk base ys L : Nat} {bud : Int} {sn : Nat → Bool} {ao : Option Addr} {cap : Nat} {pend : List Nd} {p : Nd} (h : Ov w0 w bb Pb Sv Pv S Bk base ys L bud sn ao cap ((pend ++ [p]).map codeP)) :
    ∃ k, ao = some ⟨k, 0, none⟩ ∧ k < w.heap.size ∧ w.cell? ⟨k, pend.length, none⟩ = some (.int .u64 (code p.1 p.2)) := by
  have hown := h.own
  rcases hown.2 with ⟨_, h0⟩ | ⟨g, c, cur, e, _, hb, _⟩
  · simp at h0
  · obtain ⟨rfl, _, rfl⟩ : ao = some ⟨g, 0, none⟩ ∧ True ∧ cap = c := by simpa using e
    refine ⟨g, rfl, lt_of_block hb, ?_⟩
    rw [hown.cellAt pend.length (by simp)]
    simp [codeP]

theorem Ov.pop {w0 w : World} {bb Pb Sv Pv S Bk base ys L : Nat} {bud : Int} {sn : Nat → Bool} {ao : Option Addr} {cap : Nat} {pend : List Nd} {p : Nd} (hl : Lay w0.heap.size bb Pb Sv Pv S Bk base)
    (h : Ov w0 w bb Pb Sv Pv S Bk base ys L bud sn ao cap ((pend ++ [p]).map codeP)) : Ov w0 (w.setCell ⟨Pv, 0, none⟩ (.slice ao pend.length cap)) bb Pb Sv Pv S Bk base ys L bud sn ao cap (pend.map codeP) := by
  have := hl.b; have := hl.q1; have := hl.q2; have := hl.q3; have := hl.q4; have := hl.q5; have := hl.p3; have := h.sz
  have e2 : ∀ k, k ≠ Pv → (w.setCell ⟨Pv, 0, none⟩ (.slice ao pend.length cap)).heap[k]? = w.heap[k]? := fun k hne => Below.heap_setCell w ⟨Pv, 0, none⟩ _ k hne
  have hsz2 := (grown_setCell w ⟨Pv, 0, none⟩ (.slice ao pend.length cap)).size
  refine ⟨(cell_same (e2 Pb hl.d13) 0).trans h.cPb, (cell_same (e2 bb (by omega)) 0).trans h.cbb, (frozen_same (e2 bb (by omega)) 0).trans h.fbb, (cell_same (e2 Sv hl.d23) 0).trans h.cSv,
    h.seen.keep (e2 S (Ne.symm hl.d34)) (e2 Bk (Ne.symm hl.d35)), ?_, by rw [World.frozen?_setCell]; exact h.fPv, ?_, grown_of_above h.gr (grown_setCell w ⟨Pv, 0, none⟩ _) (fun j hj => by simp at hj; omega), by omega⟩
  · rw [World.cell?_setCell_same _ _ _ h.cPv]
    simp
  · have hown := ownsRow_setCell_below h.own (a := ⟨Pv, 0, none⟩) (by simpa using hl.q3) (.slice ao pend.length cap)
    generalize w.setCell ⟨Pv, 0, none⟩ (.slice ao pend.length cap) = w' at hown
    rcases hown.2 with ⟨_, h0⟩ | ⟨g, c, cur, e, hb, hh, hn, hm, hsz, htk⟩
    · simp at h0
    · obtain ⟨rfl, _, rfl⟩ : ao = some ⟨g, 0, none⟩ ∧ True ∧ cap = c := by simpa using e
      refine ⟨by simp, .inr ⟨g, cap, cur, by simp, hb, hh, by simp at hn ⊢; omega, hm, hsz, ?_⟩⟩
      have := congrArg (List.take pend.length) htk
      simpa [List.take_take] using this

theorem OvS.pop {w0 w : World} {bb Pb Sv Pv S Bk base : Nat} {M N : Mach} {D pend : List Nd} {p : Nd} {bud : Int} {sn : Nat → Bool} {ao : Option Addr} {cap : Nat}
    (h : Ov w0 w bb Pb Sv Pv S Bk base (N.n + 1) (bitsLen M N) bud sn ao cap (pend.map codeP)) (hs : SnIs M N sn (D ++ (pend ++ [p]))) : OvS w0 w bb Pb Sv Pv S Bk base M N (D ++ [p]) pend bud := by
  refine ⟨sn, ao, cap, h, fun q hq => ?_⟩
  rw [hs q hq, Bool.eq_iff_iff]
  simp only [decide_eq_true_eq, List.mem_append, List.mem_singleton]
  constructor
  · rintro (h | h | h)
    · exact .inl (.inl h)
    · exact .inr h
    · exact .inl (.inr h)
  · rintro ((h | h) | h)
    · exact .inl h
    · exact .inr (.inr h)
    · exact .inr (.inl h)

theorem Ov.capl {w0 w : World} {bb Pb Sv Pv S Bk base ys L : Nat} {bud : Int} {sn : Nat → Bool} {ao : Option Addr} {cap : Nat} {pend : List Int} (h : Ov w0 w bb Pb Sv Pv S Bk base ys L bud sn ao cap pend) : pend.length ≤ cap := by
  rcases h.own.2 with ⟨_, h0⟩ | ⟨g, c, cur, e, _, _, hn, _⟩
  · omega
  · simp at e; omega

/-- An entry in a box of its own. -/
def Box (w : World) (b X : Nat) : Prop := w.heap[b]? = some (.cells #[.int .i64 ((X : Int) / 2), .bool (fl X)] 50 (0, 0))

theorem Box.cells {w : World} {b X : Nat} (h : Box w b X) : w.cell? ⟨b, 0, none⟩ = some (.int .i64 ((X : Int) / 2)) ∧ w.cell? ⟨b, 1, none⟩ = some (.bool (fl X)) := by
  unfold Box at h
  simp [World.cell?, h]

/-- In the middle of a round: p = (X, Y) has been taken; toX, toY are rows of the call's own, apart. -/
structure Mid (w wr : World) (bb Pb Sv Pv S Bk base : Nat) (M N : Mach) (D pend : List Nd) (bud : Int) (x12 x13 X Y : Nat) (vX vY : Value) (nX nY : Nat) (xsX xsY : List Value) : Prop where
  os : OvS w wr bb Pb Sv Pv S Bk base M N D pend bud
  bx : Box wr x12 X
  by_ : Box wr x13 Y
  lx : base ≤ x12
  ly : base ≤ x13
  rx : wr.ownsRow base 50 2 vX nX xsX
  ry : wr.ownsRow base 50 2 vY nY xsY
  ap : vX.ownBlock = none ∨ vX.ownBlock ≠ vY.ownBlock
  nx : vX.ownBlock ≠ some x12 ∧ vX.ownBlock ≠ some x13
  ny : vY.ownBlock ≠ some x12 ∧ vY.ownBlock ≠ some x13

theorem Mid.gr {w wr : World} {bb Pb Sv Pv S Bk base : Nat} {M N : Mach} {D pend : List Nd} {bud : Int} {x12 x13 X Y : Nat} {vX vY : Value} {nX nY : Nat} {xsX xsY : List Value} (h : Mid w wr bb Pb Sv Pv S Bk base M N D pend bud x12 x13 X Y vX vY nX nY xsX xsY) : w.grownBy wr (some bb) := by
  obtain ⟨_, _, _, hO, _⟩ := h.os
  exact hO.gr

theorem Mid.cbb {w wr : World} {bb Pb Sv Pv S Bk base : Nat} {M N : Mach} {D pend : List Nd} {bud : Int} {x12 x13 X Y : Nat} {vX vY : Value} {nX nY : Nat} {xsX xsY : List Value} (h : Mid w wr bb Pb Sv Pv S Bk base M N D pend bud x12 x13 X Y vX vY nX nY xsX xsY) : wr.cell? ⟨bb, 0, none⟩ = some (.int .i64 bud) := by
  obtain ⟨_, _, _, hO, _⟩ := h.os
  exact hO.cbb

theorem GlobAt.later {w wr : World} {bb g : Nat} {M : Mach} {so co : Option Addr} {sc cc : Nat} (h : GlobAt w w.heap.size bb g M so co sc cc) (hg : w.grownBy wr (some bb)) : GlobAt wr w.heap.size bb g M so co sc cc :=
  h.keep fun k hk hne => hg.block k hk (by simpa using hne)

theorem own_ne {w : World} {base : Nat} {v : Value} {n : Nat} {xs : List Value} {e : TypeId} {size b : Nat} (h : w.ownsRow base e size v n xs) (hb : w.heap.size ≤ b) : v.ownBlock ≠ some b := by
  intro e
  have := h.lt b e
  omega

theorem Mid.start {w w3 : World} {bb Pb Sv Pv S Bk base : Nat} {M N : Mach} {D pend : List Nd} {p : Nd} {bud : Int} {sn : Nat → Bool} {ao : Option Addr} {cap : Nat} {aX aY : Option Addr} {nX nY cX cY : Nat} {xsX xsY : List Value}
    (hl : Lay w.heap.size bb Pb Sv Pv S Bk base) (h : Ov w w3 bb Pb Sv Pv S Bk base (N.n + 1) (bitsLen M N) bud sn ao cap ((pend ++ [p]).map codeP)) (hs : SnIs M N sn (D ++ (pend ++ [p])))
    (hX : w3.ownsRow base 50 2 (.slice aX nX cX) nX xsX) (hY : w3.ownsRow base 50 2 (.slice aY nY cY) nY xsY) (hap : (Value.slice aX nX cX).ownBlock = none ∨ (Value.slice aX nX cX).ownBlock ≠ (Value.slice aY nY cY).ownBlock) :
    Mid w (((w3.setCell ⟨Pv, 0, none⟩ (.slice ao pend.length cap)).alloc (.cells #[.int .i64 ((p.1 : Int) / 2), .bool (fl p.1)] 50)).alloc (.cells #[.int .i64 ((p.2 : Int) / 2), .bool (fl p.2)] 50))
      bb Pb Sv Pv S Bk base M N (D ++ [p]) pend bud w3.heap.size (w3.heap.size + 1) p.1 p.2 (.slice aX nX cX) (.slice aY nY cY) nX nY xsX xsY := by
  have hp := h.pop hl
  have hp2 := hp.aft hl ⟨[.cells #[.int .i64 ((p.1 : Int) / 2), .bool (fl p.1)] 50, .cells #[.int .i64 ((p.2 : Int) / 2), .bool (fl p.2)] 50], 0⟩
  have hs3 : (w3.setCell ⟨Pv, 0, none⟩ (.slice ao pend.length cap)).heap.size = w3.heap.size := by simp [World.setCell]
  have hX' := (ownsRow_setCell_below hX (a := ⟨Pv, 0, none⟩) hl.q3 (.slice ao pend.length cap))
  have hY' := (ownsRow_setCell_below hY (a := ⟨Pv, 0, none⟩) hl.q3 (.slice ao pend.length cap))
  refine ⟨OvS.pop hp2 hs, ?_, ?_, h.sz, by have := h.sz; omega, (hX'.alloc _).alloc _, (hY'.alloc _).alloc _, hap, ⟨own_ne hX (Nat.le_refl _), own_ne hX (by omega)⟩, ⟨own_ne hY (Nat.le_refl _), own_ne hY (by omega)⟩⟩
  · unfold Box
    rw [Below.heap_alloc _ _ _ (by simp [hs3]), ← hs3]
    exact heap_alloc_new _ _
  · unfold Box
    have e : w3.heap.size + 1 = ((w3.setCell ⟨Pv, 0, none⟩ (.slice ao pend.length cap)).alloc (.cells #[.int .i64 ((p.1 : Int) / 2), .bool (fl p.1)] 50)).heap.size := by simp [hs3]
    rw [e]
    exact heap_alloc_new _ _

/-- What holds at the head of the search's loop. -/
def LoopR (w wr : World) (bb Pb Sv Pv S Bk base : Nat) (M N : Mach) (gn : Nat) (sX sY : Value) : Prop :=
  ∃ D pend bud aX nX cX xsX aY nY cY xsY, Srch M N D pend ∧ gn = total M N - D.length ∧ OvS w wr bb Pb Sv Pv S Bk base M N D pend bud ∧ bud ≤ 1073741823 ∧ 1073741823 - 3 * (D.length : Int) ≤ bud ∧
    sX = .slice aX nX cX ∧ sY = .slice aY nY cY ∧ wr.ownsRow base 50 2 (.slice aX nX cX) nX xsX ∧ wr.ownsRow base 50 2 (.slice aY nY cY) nY xsY ∧
    ((Value.slice aX nX cX).ownBlock = none ∨ (Value.slice aX nX cX).ownBlock ≠ (Value.slice aY nY cY).ownBlock)

theorem LoopR.start {w wr : World} {bb Pb Sv Pv S Bk base : Nat} {M N : Mach} (h : OvS w wr bb Pb Sv Pv S Bk base M N [] [(0, 0)] 1073741823) : LoopR w wr bb Pb Sv Pv S Bk base M N (total M N) (.slice none 0 0) (.slice none 0 0) :=
  ⟨[], [(0, 0)], 1073741823, none, 0, 0, [], none, 0, 0, [], Srch.start M N, by simp, h, by omega, by simp, rfl, rfl, World.ownsRow_nil _ _ _ _, World.ownsRow_nil _ _ _ _, .inl rfl⟩

theorem OvS.aft {w0 w : World} {bb Pb Sv Pv S Bk base : Nat} {M N : Mach} {D pend : List Nd} {bud : Int} (hl : Lay w0.heap.size bb Pb Sv Pv S Bk base) (h : OvS w0 w bb Pb Sv Pv S Bk base M N D pend bud) (x : Aft) : OvS w0 (aft w x) bb Pb Sv Pv S Bk base M N D pend bud := by
  obtain ⟨sn, ao, cap, hO, hs⟩ := h
  exact ⟨sn, ao, cap, hO.aft hl x, hs⟩

theorem OvS.sz {w0 w : World} {bb Pb Sv Pv S Bk base : Nat} {M N : Mach} {D pend : List Nd} {bud : Int} (h : OvS w0 w bb Pb Sv Pv S Bk base M N D pend bud) : base ≤ w.heap.size := by
  obtain ⟨sn, ao, cap, hO, hs⟩ := h
  exact hO.sz

theorem Box.keep {w w' : World} {b X : Nat} (h : Box w b X) (e : w'.heap[b]? = w.heap[b]?) : Box w' b X := e.trans h
theorem Box.lt {w : World} {b X : Nat} (h : Box w b X) : b < w.heap.size := lt_of_block h

section
variable {w wr : World} {bb Pb Sv Pv S Bk base : Nat} {M N : Mach} {D pend : List Nd} {bud : Int} {x12 x13 X Y : Nat} {vX vY : Value} {nX nY : Nat} {xsX xsY : List Value}

theorem Mid.aft (hl : Lay w.heap.size bb Pb Sv Pv S Bk base) (h : Mid w wr bb Pb Sv Pv S Bk base M N D pend bud x12 x13 X Y vX vY nX nY xsX xsY) (x : Aft) : Mid w (aft wr x) bb Pb Sv Pv S Bk base M N D pend bud x12 x13 X Y vX vY nX nY xsX xsY :=
  ⟨h.os.aft hl x, h.bx.keep ((aft_below wr x).block _ h.bx.lt), h.by_.keep ((aft_below wr x).block _ h.by_.lt), h.lx, h.ly, own_aft h.rx x, own_aft h.ry x, h.ap, h.nx, h.ny⟩

theorem row_none {w : World} {base : Nat} {ao : Option Addr} {n cap : Nat} {xs : List Value} (h : w.ownsRow base 50 2 (.slice ao n cap) n xs) : w.ownsRow base 50 2 (.slice ao 0 cap) 0 [] := by
  rcases h.2 with ⟨e, h0⟩ | ⟨g, c, cur, e, hb, hh, hn, hm, hsz, _⟩
  · refine ⟨by simp, .inl ⟨?_, rfl⟩⟩
    simp at e
    obtain ⟨rfl, _, rfl⟩ := e
    rfl
  · obtain ⟨rfl, _, rfl⟩ : ao = some ⟨g, 0, none⟩ ∧ True ∧ cap = c := by simpa using e
    exact ⟨by simp, .inr ⟨g, cap, cur, rfl, hb, hh, Nat.zero_le _, hm, hsz, by simp⟩⟩

theorem OvS.grown {w0 w w' : World} {bb Pb Sv Pv S Bk base : Nat} {M N : Mach} {D pend : List Nd} {bud : Int} {row : Option Nat} (hl : Lay w0.heap.size bb Pb Sv Pv S Bk base) (h : OvS w0 w bb Pb Sv Pv S Bk base M N D pend bud) (hg : w.grownBy w' row)
    (hr : ∀ j, row = some j → base ≤ j ∧ ∃ cur, w.heap[j]? = some (.cells cur 50 (0, 0))) : OvS w0 w' bb Pb Sv Pv S Bk base M N D pend bud := by
  obtain ⟨sn, ao, cap, hO, hs⟩ := h
  have := hl.b; have := hl.q1; have := hl.q2; have := hl.q3; have := hl.q4; have := hl.q5; have := hl.p1; have := hO.sz; have := hg.size
  have e : ∀ k, k < base → w'.heap[k]? = w.heap[k]? := fun k hk => hg.block k (by omega) (fun e => by have := (hr k e.symm).1; omega)
  refine ⟨sn, ao, cap, ⟨(cell_same (e Pb (by omega)) 0).trans hO.cPb, (cell_same (e bb (by omega)) 0).trans hO.cbb, (frozen_same (e bb (by omega)) 0).trans hO.fbb, (cell_same (e Sv (by omega)) 0).trans hO.cSv,
    hO.seen.keep (e S (by omega)) (e Bk (by omega)), (cell_same (e Pv (by omega)) 0).trans hO.cPv, (frozen_same (e Pv (by omega)) 0).trans hO.fPv, hO.own.kept hg ?_,
    grown_of_above hO.gr hg (fun j hj => by have := (hr j hj).1; omega), by omega⟩, hs⟩
  cases hrow : row with
  | none =>
    cases ho : (Value.slice ao (pend.map codeP).length cap).ownBlock with
    | none => exact .inl rfl
    | some j => exact .inr (by simp)
  | some j =>
    right
    intro e
    obtain ⟨_, cur, hc⟩ := hr j hrow
    rcases hO.own.2 with ⟨e1, _⟩ | ⟨g, c, cur', e1, _, hb', _⟩
    · rw [e1] at e; simp [Value.ownBlock] at e
    · rw [e1] at e
      simp [Value.ownBlock] at e
      subst e
      rw [hb'] at hc
      simp at hc

theorem row_is {w : World} {base : Nat} {v : Value} {n : Nat} {xs : List Value} (h : w.ownsRow base 50 2 v n xs) : ∀ j, v.ownBlock = some j → base ≤ j ∧ ∃ cur, w.heap[j]? = some (.cells cur 50 (0, 0)) := by
  intro j e
  rcases h.2 with ⟨e1, _⟩ | ⟨g, c, cur, e1, hb, hh, _⟩
  · rw [e1] at e; simp [Value.ownBlock] at e
  · rw [e1] at e
    simp [Value.ownBlock] at e
    subst e
    exact ⟨hb, cur, hh⟩

theorem kept_other {w w' : World} {base : Nat} {v : Value} {n : Nat} {xs : List Value} {row : Option Nat} (h : w.ownsRow base 50 2 v n xs) (hg : w.grownBy w' row) (hne : row = none ∨ row ≠ v.ownBlock) : w'.ownsRow base 50 2 v n xs := by
  refine h.kept hg ?_
  rcases hne with e | e
  · cases ho : v.ownBlock with
    | none => exact .inl rfl
    | some j => rw [e]; exact .inr (by simp)
  · exact .inr (Ne.symm e)

theorem Mid.passX (hl : Lay w.heap.size bb Pb Sv Pv S Bk base) {w' : World} {aX aX' : Option Addr} {cX cX' : Nat} {l : List Nat} (h : Mid w wr bb Pb Sv Pv S Bk base M N D pend bud x12 x13 X Y (.slice aX nX cX) vY nX nY xsX xsY)
    (ho : w'.ownsRow base 50 2 (.slice aX' l.length cX') l.length (ents l)) (hg : wr.grownBy w' (Value.slice aX 0 cX).ownBlock)
    (hat : (Value.slice aX' l.length cX').ownBlock = (Value.slice aX 0 cX).ownBlock ∨ ∃ k, (Value.slice aX' l.length cX').ownBlock = some k ∧ wr.heap.size ≤ k) :
    Mid w w' bb Pb Sv Pv S Bk base M N D pend bud x12 x13 X Y (.slice aX' l.length cX') vY l.length nY (ents l) xsY := by
  have e0 : (Value.slice aX 0 cX).ownBlock = (Value.slice aX nX cX).ownBlock := by cases aX <;> rfl
  rw [e0] at hg hat
  have lx := h.bx.lt
  have ly := h.by_.lt
  refine ⟨h.os.grown hl hg (row_is h.rx), h.bx.keep (hg.block _ lx (Ne.symm h.nx.1)), h.by_.keep (hg.block _ ly (Ne.symm h.nx.2)), h.lx, h.ly, ho, kept_other h.ry hg h.ap, ?_, ?_, h.ny⟩
  · rcases hat with e | ⟨k, e, hk⟩
    · rw [e]; exact h.ap
    · right
      rw [e]
      intro e'
      have := h.ry.lt k e'.symm
      omega
  · rcases hat with e | ⟨k, e, hk⟩
    · rw [e]; exact h.nx
    · rw [e]
      exact ⟨fun e' => by simp at e'; omega, fun e' => by simp at e'; omega⟩

theorem Mid.passY (hl : Lay w.heap.size bb Pb Sv Pv S Bk base) {w' : World} {aY aY' : Option Addr} {cY cY' : Nat} {l : List Nat} (h : Mid w wr bb Pb Sv Pv S Bk base M N D pend bud x12 x13 X Y vX (.slice aY nY cY) nX nY xsX xsY)
    (ho : w'.ownsRow base 50 2 (.slice aY' l.length cY') l.length (ents l)) (hg : wr.grownBy w' (Value.slice aY 0 cY).ownBlock)
    (hat : (Value.slice aY' l.length cY').ownBlock = (Value.slice aY 0 cY).ownBlock ∨ ∃ k, (Value.slice aY' l.length cY').ownBlock = some k ∧ wr.heap.size ≤ k) :
    Mid w w' bb Pb Sv Pv S Bk base M N D pend bud x12 x13 X Y vX (.slice aY' l.length cY') nX l.length xsX (ents l) := by
  have e0 : (Value.slice aY 0 cY).ownBlock = (Value.slice aY nY cY).ownBlock := by cases aY <;> rfl
  rw [e0] at hg hat
  have lx := h.bx.lt
  have ly := h.by_.lt
  have hap : (Value.slice aY nY cY).ownBlock = none ∨ (Value.slice aY nY cY).ownBlock ≠ vX.ownBlock := by
    cases hy : (Value.slice aY nY cY).ownBlock with
    | none => exact .inl rfl
    | some j =>
      right
      intro e
      rcases h.ap with e' | e'
      · rw [e'] at e; cases e
      · exact e' (by rw [hy, e])
  refine ⟨h.os.grown hl hg (row_is h.ry), h.bx.keep (hg.block _ lx (Ne.symm h.ny.1)), h.by_.keep (hg.block _ ly (Ne.symm h.ny.2)), h.lx, h.ly, kept_other h.rx hg hap, ho, ?_, h.nx, ?_⟩
  · rcases hat with e | ⟨k, e, hk⟩
    · rw [e]; exact h.ap
    · right
      rw [e]
      intro e'
      have := h.rx.lt k e'
      omega
  · rcases hat with e | ⟨k, e, hk⟩
    · rw [e]; exact h.ny
    · rw [e]
      exact ⟨fun e' => by simp at e'; omega, fun e' => by simp at e'; omega⟩

/-- Behind a call of 'reach'. -/
theorem Mid.reach {w' : World} {pend' : List Nd} {bud' : Int} (h : Mid w wr bb Pb Sv Pv S Bk base M N D pend bud x12 x13 X Y vX vY nX nY xsX xsY) (hl : Lay w.heap.size bb Pb Sv Pv S Bk base)
    (hO : OvS w w' bb Pb Sv Pv S Bk base M N D pend' bud') (hR : Rest2 wr w' bb Pv) : Mid w w' bb Pb Sv Pv S Bk base M N D pend' bud' x12 x13 X Y vX vY nX nY xsX xsY := by
  have lx := h.bx.lt
  have ly := h.by_.lt
  have l1 := h.lx
  have l2 := h.ly
  have := hl.b; have := hl.p1; have := hl.q1; have := hl.q3
  have e1 : w'.heap[x12]? = wr.heap[x12]? := hR.block x12 lx (by omega) (by omega) (fun cur fr e => by have hb : wr.heap[x12]? = _ := h.bx; rw [hb] at e; simp at e)
  have e2 : w'.heap[x13]? = wr.heap[x13]? := hR.block x13 ly (by omega) (by omega) (fun cur fr e => by have hb : wr.heap[x13]? = _ := h.by_; rw [hb] at e; simp at e)
  have keep : ∀ (v : Value) (n : Nat) (xs : List Value), wr.ownsRow base 50 2 v n xs → w'.ownsRow base 50 2 v n xs := by
    intro v n xs ho
    refine ⟨ho.1, ?_⟩
    rcases ho.2 with e | ⟨g, c, cur, e, hb, hh, hr⟩
    · exact .inl e
    · refine .inr ⟨g, c, cur, e, hb, ?_, hr⟩
      rw [hR.block g (lt_of_block hh) (by omega) (by omega) (fun cur' fr e' => by rw [hh] at e'; simp at e'), hh]
  exact ⟨hO, h.bx.keep e1, h.by_.keep e2, h.lx, h.ly, keep _ _ _ h.rx, keep _ _ _ h.ry, h.ap, h.nx, h.ny⟩

theorem ents_at : ∀ (l : List Nat) (k : Nat) (z : Nat), l[k]? = some z → (ents l)[k * 2]? = some (.int .i64 ((z : Int) / 2)) ∧ (ents l)[k * 2 + 1]? = some (.bool (fl z))
  | [], k, z, h => by simp at h
  | x :: l, 0, z, h => by simp at h; subst h; simp [ents]
  | x :: l, k + 1, z, h => by
    have := ents_at l k z (by simpa using h)
    have e : ents (x :: l) = Value.int .i64 ((x : Int) / 2) :: Value.bool (fl x) :: ents l := by simp [ents]
    rw [e, show (k + 1) * 2 = k * 2 + 1 + 1 from by omega, show k * 2 + 1 + 1 + 1 = (k * 2 + 1) + 1 + 1 from by omega]
    simpa using this

theorem row_at {w : World} {base : Nat} {ao : Option Addr} {cap : Nat} {l : List Nat} (h : w.ownsRow base 50 2 (.slice ao l.length cap) l.length (ents l)) (k z : Nat) (hz : l[k]? = some z) :
    ∃ g, ao = some ⟨g, 0, none⟩ ∧ g < w.heap.size ∧ w.cell? ⟨g, k * 2, none⟩ = some (.int .i64 ((z : Int) / 2)) ∧ w.cell? ⟨g, k * 2 + 1, none⟩ = some (.bool (fl z)) := by
  have hk : k < l.length := (List.getElem?_eq_some_iff.1 hz).1
  rcases h.2 with ⟨_, h0⟩ | ⟨g, c, cur, e, _, hb, _⟩
  · omega
  · obtain ⟨rfl, _, rfl⟩ : ao = some ⟨g, 0, none⟩ ∧ True ∧ cap = c := by simpa using e
    obtain ⟨e1, e2⟩ := ents_at l k z hz
    exact ⟨g, rfl, lt_of_block hb, (h.cellAt (k * 2) (by omega)).trans e1, (h.cellAt (k * 2 + 1) (by omega)).trans e2⟩

theorem Srch.midlen {M N : Mach} {D pend : List Nd} {p : Nd} (h : Srch M N D (pend ++ [p])) (qs : List Nd) (hq : ∀ q ∈ qs, inR M N q) : (pushes (D ++ [p]) pend qs).length ≤ total M N := by
  have hnd : ((D ++ [p]) ++ pend).Nodup := by
    have e : ((D ++ [p]) ++ pend).Perm (D ++ (pend ++ [p])) := by
      rw [List.append_assoc]
      exact List.Perm.append_left D List.perm_append_comm
    exact e.nodup_iff.2 h.nodup
  have := length_le (M := M) (N := N) (pushes_nodup qs pend hnd) (fun q hq' => by
    rw [pushes_mem] at hq'
    rcases hq' with hq' | hq'
    · exact hq q hq'
    · refine h.inr q ?_
      simp only [List.mem_append, List.mem_singleton] at *
      rcases hq' with (h | h) | h
      · exact .inl h
      · exact .inr (.inr h)
      · exact .inr (.inl h))
  simp only [List.length_append] at this
  omega

/-- The rounds over toX: k of them have been made. -/
def L2R (w wr : World) (bb Pb Sv Pv S Bk base : Nat) (M N : Mach) (D pend : List Nd) (bud : Int) (x12 x13 X Y : Nat) (vX vY : Value) (nX nY : Nat) (xsX xsY : List Value) (l : List Nat) (gn : Nat) (i : Value) : Prop :=
  ∃ k, k ≤ l.length ∧ gn = l.length - k ∧ i = .int .i64 (k : Int) ∧ Mid w wr bb Pb Sv Pv S Bk base M N D (pushes D pend ((l.take k).map fun x => (x, Y))) (bud - k) x12 x13 X Y vX vY nX nY xsX xsY

/-- The rounds over toY. -/
def L3R (w wr : World) (bb Pb Sv Pv S Bk base : Nat) (M N : Mach) (D pend : List Nd) (bud : Int) (x12 x13 X Y : Nat) (vX vY : Value) (nX nY : Nat) (xsX xsY : List Value) (l : List Nat) (gn : Nat) (i : Value) : Prop :=
  ∃ k, k ≤ l.length ∧ gn = l.length - k ∧ i = .int .i64 (k : Int) ∧ Mid w wr bb Pb Sv Pv S Bk base M N D (pushes D pend ((l.take k).map fun y => (X, y))) (bud - k) x12 x13 X Y vX vY nX nY xsX xsY

theorem pushes_snoc (D pend qs : List Nd) (q : Nd) : pushes D pend (qs ++ [q]) = push1 D (pushes D pend qs) q := by
  rw [pushes_append]; rfl

end
end Go.Proofs.Ybulkbeeu
