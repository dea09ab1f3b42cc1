/- The closure 'reach'. -/
import Derived.Test.YbulkbeeuOv
namespace Go.Proofs.Ybulkbeeu
open Go.RowKit
set_option linter.unusedSimpArgs false
set_option linter.unusedVariables false

/-- What a call may have turned: the budget, the bits, the pending list's variable and row; all else is as it was. -/
structure Rest (w w' : World) (bb Pv Bk : Nat) (row : Option Nat) : Prop where
  size : w.heap.size ≤ w'.heap.size
  block : ∀ k, k < w.heap.size → k ≠ bb → k ≠ Bk → k ≠ Pv → some k ≠ row → w'.heap[k]? = w.heap[k]?

theorem rest_old {w w1 w2 : World} {bb Pv Bk : Nat} {row : Option Nat} (h1 : w.grownBy w1 (some bb)) (h2 : w1.grownBy w2 (some Bk)) : Rest w w2 bb Pv Bk row := by
  have s1 := h1.size
  have s2 := h2.size
  refine ⟨by omega, ?_⟩
  intro j hj n1 n2 _ _
  rw [h2.block j (by omega) (by simpa using n2), h1.block j hj (by simpa using n1)]

theorem rest_push {w w1 w2 w3 : World} {bb Pv Bk : Nat} {row : Option Nat} {o : Obj} {u : Value} (h1 : w.grownBy w1 (some bb)) (h2 : w1.grownBy w2 (some Bk)) (h3 : (w2.alloc o).grownBy w3 row) : Rest w (w3.setCell ⟨Pv, 0, none⟩ u) bb Pv Bk row := by
  have s1 := h1.size
  have s2 := h2.size
  have s3 := h3.size
  have s4 := (grown_setCell w3 ⟨Pv, 0, none⟩ u).size
  have s5 : (w2.alloc o).heap.size = w2.heap.size + 1 := by simp
  refine ⟨by omega, ?_⟩
  intro j hj n1 n2 n3 n4
  rw [Below.heap_setCell w3 ⟨Pv, 0, none⟩ _ j n3, h3.block j (by omega) n4, Below.heap_alloc _ _ _ (by omega), h2.block j (by omega) (by simpa using n2), h1.block j hj (by simpa using n1)]

def ReachPost (w0 w : World) (bb Pb Sv Pv S Bk base ys L : Nat) (bud : Int) (sn : Nat → Bool) (pend : List Int) (row : Option Nat) (e : Ending) (w' : World) : Prop :=
  e = .returned (.tuple #[]) ∧ ∃ ao' cap', Ov w0 w' bb Pb Sv Pv S Bk base ys L bud sn ao' cap' pend ∧ Rest w w' bb Pv Bk row

theorem allocs_drewN : ∀ (l : List Obj) (w : World) (n : Nat), l.foldl World.alloc (w.drewN n) = (l.foldl World.alloc w).drewN n
  | [], _, _ => rfl
  | o :: l, w, n => allocs_drewN l (w.alloc o) n

theorem aft_aft (w : World) (x y : Aft) : aft (aft w x) y = aft w ⟨x.xs ++ y.xs, x.n + y.n⟩ := by
  unfold aft
  rw [allocs_drewN, List.foldl_append, World.drewN_drewN]

theorem Yba.i25' : (Yba.prog.info? 25).map (fun i => (i.zero, i.size, i.bytes)) = some (some (.int .u64 0), 1, 8) := Yba.i25

/-- 'pending = append(pending, pair)'. -/
theorem wpList_push25 {ops : Array Oper} {rest : List Oper} {o : Oper} {a : Act} {Q : Exit → Act → World → Prop} {W : World} (hgd : o.guard = none) (s x : Operand)
    (ho : o.op = .call { callee := .builtin .append, args := #[s, x], argTypes := #[48, 48] })
    (w0 w : World) (bb Pb Sv Pv S Bk base ys L : Nat) (bud : Int) (sn : Nat → Bool) (ao : Option Addr) (cap : Nat) (pend : List Int) (hl : Lay w0.heap.size bb Pb Sv Pv S Bk base)
    (h : Ov w0 w bb Pb Sv Pv S Bk base ys L bud sn ao cap pend) (hp : pend.length ≤ 1000000) (c : Int) (hW : W = w.alloc (.cells #[.int .u64 c] 25))
    (hs : a.eval s = .slice ao pend.length cap) (hx : a.eval x = .slice (some ⟨w.heap.size, 0, none⟩) 1 1)
    (hK : ∀ k cap' w', Ov w0 (w'.setCell ⟨Pv, 0, none⟩ (.slice (some ⟨k, 0, none⟩) (pend.length + 1) cap')) bb Pb Sv Pv S Bk base ys L bud sn (some ⟨k, 0, none⟩) cap' (pend ++ [c]) →
      w'.cell? ⟨Pv, 0, none⟩ = some (.slice ao pend.length cap) → w'.frozen? ⟨Pv, 0, none⟩ = false → Hid (W.grownBy w' (Value.slice ao pend.length cap).ownBlock) →
      wpList Yba.prog ops Q rest (a.put o.dst (.slice (some ⟨k, 0, none⟩) (pend.length + 1) cap')) w') :
    wpList Yba.prog ops Q (o :: rest) a W := by
  obtain ⟨i0, hi0, hz0, hz1, hz2⟩ := info_parts Yba.i25
  have h2 := h.aft hl ⟨[.cells #[.int .u64 c] 25], 0⟩
  have hW2 : W = aft w ⟨[.cells #[.int .u64 c] 25], 0⟩ := hW
  rw [← hW2] at h2
  refine wpList_append_lies _ hgd s x 48 ho base 25 i0 _ 1 8 Yba.underlying48 hi0 hz0 hz1 hz2 rfl (by decide) _ pend.length (pend.map (Value.int .u64)) hs h2.own ⟨w.heap.size, 0, none⟩ 1 1 [.int .u64 c] hx rfl ?_ ?_ (by decide) (by unfold maxLen; omega) (by omega) h2.sz _ rfl ?_
  · intro j u hj
    match j, hj with
    | 0, hj => simp at hj; subst hj; rw [hW]; simp [Addr.add]
    | j + 1, hj => simp at hj
  · intro u hu
    simp at hu
    subst hu
    rfl
  · intro k cap' w' h3 h4 _ _
    have hq : Pv < base := hl.q3
    have e : w'.heap[Pv]? = W.heap[Pv]? := h4.block Pv (by have := h2.sz; omega) (h2.ownNe hq)
    exact hK k cap' w' (h2.push hl h3 h4) ((cell_same e 0).trans h2.cPv) ((frozen_same e 0).trans h2.fPv) h4

set_option maxHeartbeats 1000000 in
theorem reach_any (w0 w : World) (bb Pb Sv Pv S Bk base ys L : Nat) (bud : Int) (sn : Nat → Bool) (ao : Option Addr) (cap : Nat) (pend : List Int)
    (hl : Lay w0.heap.size bb Pb Sv Pv S Bk base) (h : Ov w0 w bb Pb Sv Pv S Bk base ys L bud sn ao cap pend) (X Y : Nat) (hX : X ≤ 100000) (hY : Y ≤ 100000) (hys : ys ≤ 100000) (hL : L ≤ 100000) (hi : X * 2 * ys + Y < L * 64)
    (hb0 : 0 < bud) (hb1 : bud ≤ 1073741824) (hp : pend.length ≤ 1000000) :
    Calls Yba.prog 12 #[entV X, entV Y, .pointer (some ⟨Pb, 0, none⟩), .pointer (some ⟨Sv, 0, none⟩), .pointer (some ⟨Pv, 0, none⟩)] w
      (ReachPost w0 w bb Pb Sv Pv S Bk base ys L (bud - 1) (fun k => k == X * 2 * ys + Y || sn k) (if sn (X * 2 * ys + Y) = true then pend else pend ++ [code X Y]) (Value.slice ao pend.length cap).ownBlock) := by
  have eX : entV X = .agg #[.int .i64 ((X / 2 : Nat) : Int), .bool (fl X)] := by unfold entV; rw [show ((X : Int) / 2) = ((X / 2 : Nat) : Int) from by omega]
  have eY : entV Y = .agg #[.int .i64 ((Y / 2 : Nat) : Int), .bool (fl Y)] := by unfold entV; rw [show ((Y : Int) / 2) = ((Y / 2 : Nat) : Int) from by omega]
  have hpo := fun w => pairOf_any (X / 2) (Y / 2) (by omega) (by omega) (fl X) (fl Y) w
  rw [enc_back, enc_back] at hpo
  have Hpo : Hid _ := hpo
  rw [eX, eY]
  clear eX eY hpo
  generalize X / 2 = x at *
  generalize Y / 2 = y at *
  generalize fl X = f at *
  generalize fl Y = g at *
  have c1 := h.cPb
  have c2 := h.cbb
  have c3 := h.fbb
  have l1 : Pb < w.heap.size := by have := hl.q1; have := h.sz; omega
  have l2 : bb < w.heap.size := by have := hl.b; have := hl.p1; omega
  have hO1 := h.budget hl (bud - 1)
  go_enter Yba.func12, Yba.ntmps12
  go_wp2_with fail
  refine (Hpo.out _).mono ?_
  rintro e w1 ⟨rfl, x1, hw1⟩
  have hw1' : w1 = aft (w.setCell ⟨bb, 0, none⟩ (.int .i64 (bud - 1))) ⟨[.cells #[.int .i64 x, .bool f] 50, .cells #[.int .i64 y, .bool g] 50] ++ x1.xs, 0 + x1.n⟩ := by
    rw [hw1]; exact aft_aft _ ⟨[.cells #[.int .i64 x, .bool f] 50, .cells #[.int .i64 y, .bool g] 50], 0⟩ x1
  have hO2 := hO1.aft hl ⟨[.cells #[.int .i64 x, .bool f] 50, .cells #[.int .i64 y, .bool g] 50] ++ x1.xs, 0 + x1.n⟩
  rw [← hw1'] at hO2
  have R1 : Hid (w.grownBy w1 (some bb)) := by
    show w.grownBy w1 (some bb)
    rw [hw1']
    exact grown_trans (grown_setCell w ⟨bb, 0, none⟩ _) (grown_aft _ _ _)
  clear hw1 hw1' hO1 h c1 c2 c3 Hpo
  have c4 := hO2.cSv
  have hps := psadd_any X Y ys L S Bk w1 sn hO2.seen hX hY hys hL hi
  have Hps : Hid _ := hps
  clear hps
  go_wp2_with fail
  refine Calls.mono Hps.out ?_
  rintro e w2 ⟨rfl, hs2, hg2, hz2⟩
  clear hz2
  have hO3 := hO2.saw hl hs2 hg2
  have Hg2 : Hid (w1.grownBy w2 (some Bk)) := hg2
  clear hs2 hg2 hO2 c4 Hps
  cases hsn : sn (X * 2 * ys + Y)
  · have c5 := hO3.cPv
    have c6 := hO3.fPv
    have l3 : Pv < w2.heap.size := by have := hl.q3; have := hO3.sz; omega
    go_wp2_with (at_builtin; refine wpList_push25 rfl (.tmp 19) (.tmp 21) rfl w0 w2 bb Pb Sv Pv S Bk base ys L (bud - 1) _ ao cap pend hl hO3 hp (code X Y) rfl rfl rfl ?_; intro k cap' w3 hO4 c7 c8 hg3)
    all_goals
      go_end0
      exact ⟨rfl, some ⟨k, 0, none⟩, cap', hO4, rest_push R1.out Hg2.out hg3.out⟩
  · go_wp2_with fail
    go_end0
    exact ⟨rfl, ao, cap, hO3, rest_old R1.out Hg2.out⟩

end Go.Proofs.Ybulkbeeu
