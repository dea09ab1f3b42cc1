/- mapAll at Type. -/
import Derived.Test.YbulkbeboPs
import Derived.Deep.LoopGhost
import Derived.Deep.RegionLaw
namespace Go.Proofs.Ybulkbebo
open Go.RowKit
open Classical
attribute [local go_sem] neq_func75 neq_func76 neq_nil76 as45_45 as53_45 as63_45 as72_45 as45_63 as53_63 as63_63 as72_63 as45_72 as53_72 as63_72 as72_72 as45_95 as53_95 as63_95 as72_95
set_option linter.unusedSimpArgs false
set_option linter.unusedVariables false

theorem step_append_own {P : Program} {ops : Array Oper} {o : Oper} {a : Act} {w : World} {K : Act → World → Prop} {Q : Exit → Act → World → Prop} {E : Prop}
    (hg : o.guard = none) (s x : Operand) (t : TypeId) (hop : o.op = Op.call { callee := Callee.builtin Builtin.append, args := #[s, x], argTypes := #[t, t] })
    (base : Nat) (e : TypeId) (i : TypeInfo) (z : Value) (size bytes : Nat) (ht : P.underlying t = some (.slice e)) (hi : P.info? e = some i) (hz : i.zero = some z)
    (hsize : i.size = size) (hby : i.bytes = bytes) (hzs : z.cells.size = size) (hsz : 0 < size)
    (v : Value) (n : Nat) (xs : List Value) (hs : a.eval s = v) (hown : w.ownsRow base e size v n xs)
    (ad : Addr) (m c : Nat) (news : List Value) (hx : a.eval x = .slice (some ad) m c) (hl : news.length = m * size) (hnews : ∀ j u, news[j]? = some u → w.cell? (ad.add j) = some u) (h1 : ∀ u ∈ news, u.oneCell' = true)
    (h63 : n + m ≤ maxLen) (hbytes : (n + m) * bytes ≤ 140737488355328) (hbase : base ≤ w.heap.size)
    (h : ∀ v' w', w'.ownsRow base e size v' (n + m) (xs ++ news) → w.grownBy w' v.ownBlock → K (a.put o.dst v') w') :
    if Region.wanted o (yielded ops a.tmps) = true then Oper.wp P o a w K Q else E := by
  have hw : Region.wanted o (yielded ops a.tmps) = true := by simp [Region.wanted, hg]
  rw [if_pos hw]
  exact wp_append_own w s x t hop base e i z size bytes ht hi hz hsize hby hzs hsz v n xs hs hown ad m c news hx hl hnews h1 h63 hbytes hbase fun v' w' h2 h3 _ => h v' w' h2 h3

/-- A row of one-cell values. -/
def RowV (w : World) (v : Value) (m : Nat) (f : Nat → Value) : Prop :=
  (v = .slice none 0 0 ∧ m = 0) ∨ ∃ g cap, v = .slice (some ⟨g, 0, none⟩) m cap ∧ m ≤ cap ∧ ∀ i, i < m → w.cell? ⟨g, i, none⟩ = some (f i)

def upto (f : Nat → Value) (n : Nat) : List Value := (List.range n).map f

theorem upto_succ (f : Nat → Value) (n : Nat) : upto f (n + 1) = upto f n ++ [f n] := by simp [upto, List.range_succ]
theorem upto_length (f : Nat → Value) (n : Nat) : (upto f n).length = n := by simp [upto]
theorem upto_get {f : Nat → Value} {n j : Nat} {u : Value} (h : (upto f n)[j]? = some u) : j < n ∧ u = f j := by
  simp only [upto, List.getElem?_map, List.getElem?_range] at h
  by_cases hj : j < n
  · simp [List.getElem?_range hj] at h; exact ⟨hj, h.symm⟩
  · rw [List.getElem?_eq_none (by simp; omega)] at h; cases h
theorem upto_congr {f g : Nat → Value} : ∀ {n : Nat}, (∀ i, i < n → f i = g i) → upto f n = upto g n := fun {n} h => by
  unfold upto
  exact List.map_congr_left (fun a ha => h a (List.mem_range.1 ha))

/-- A row that is owned reads as its list. -/
theorem own_cell {w : World} {base n : Nat} {e : TypeId} {v : Value} {f : Nat → Value} (h : w.ownsRow base e 1 v n (upto f n)) (hn : 0 < n) : ∃ g cap, v = .slice (some ⟨g, 0, none⟩) n cap ∧ base ≤ g ∧ g < w.heap.size ∧ n ≤ cap ∧ ∀ i, i < n → w.cell? ⟨g, i, none⟩ = some (f i) := by
  rcases h.2 with ⟨_, h0⟩ | ⟨g, cap, cur, hv, hb, hg, hc, hmx, hs, ht⟩
  · omega
  refine ⟨g, cap, hv, hb, (h.lt g (by rw [hv]; rfl)).2, hc, fun i hi => ?_⟩
  rw [cell_of_row w g i cur e (0, 0) hg]
  have h1 : (cur.toList.take (n * 1))[i]? = (upto f n)[i]? := by rw [ht]
  rw [List.getElem?_take, if_pos (by omega)] at h1
  rw [← Array.getElem?_toList, h1]
  simp [upto, List.getElem?_range hi]

theorem own_same {w w' : World} {base n size : Nat} {e : TypeId} {v : Value} {xs : List Value} (h : w.ownsRow base e size v n xs) (hk : ∀ k, v.ownBlock = some k → w'.heap[k]? = w.heap[k]?) : w'.ownsRow base e size v n xs := by
  refine ⟨h.1, ?_⟩
  rcases h.2 with hn | ⟨g, cap, cur, rfl, hb, hgg, rest⟩
  · exact .inl hn
  · exact .inr ⟨g, cap, cur, rfl, hb, (hk g rfl).trans hgg, rest⟩

theorem own_grw {M : Nat → Prop} {w w' : World} {base n size : Nat} {e : TypeId} {v : Value} {xs : List Value} (h : w.ownsRow base e size v n xs) (g : Grw M w w') (hM : ∀ k, base ≤ k → ¬ M k) : w'.ownsRow base e size v n xs :=
  own_same h (fun k hk => g.block k (h.lt k hk).2 (hM k (h.lt k hk).1))

theorem mk58 (m : Nat) (hm : m ≤ 1000) (w : World) : (Instr.makeSlice 58 (.int .i64 0) (.int .i64 (m : Int))).run Yba.prog w = .ok (.slice (some ⟨w.heap.size, 0, none⟩) 0 m) (w.alloc (.cells (madeCells #[.nilIface] m) 49)) := by
  obtain ⟨i0, hi0, hz0, hz1, hz2⟩ := info_parts Yba.i49
  have h := run_make (P := Yba.prog) w 58 49 i0 .nilIface Yba.underlying58 hi0 hz0 .i64 .i64 0 (m : Int) (by omega) (by omega) (by rw [hz2]; omega) (by omega)
  simpa [hz1, Value.cells] using h
theorem eql58_none (w : World) (n c n' c' : Nat) : (binOp .eql 58 (.slice none n c) (.slice none n' c')).run Yba.prog w = .ok (.bool true) w := by
  have h : ∀ d : Nat, (Op.equalIn (d + 1) 58 (.slice none n c) (.slice none n' c')).run Yba.prog w = .ok true w := fun d => by
    simp [Op.equalIn, run_underlying Yba.underlying58]
  simp only [binOp]
  simp [Op.equal, Op.maxDepth, h 9999]
attribute [local go_sem] eql58_none
theorem eql58_some (w : World) (a : Addr) (n c n' c' : Nat) : (binOp .eql 58 (.slice (some a) n c) (.slice none n' c')).run Yba.prog w = .ok (.bool false) w := by
  have h : ∀ d : Nat, (Op.equalIn (d + 1) 58 (.slice (some a) n c) (.slice none n' c')).run Yba.prog w = .ok false w := fun d => by
    simp [Op.equalIn, run_underlying Yba.underlying58]
  simp only [binOp]
  simp [Op.equal, Op.maxDepth, h 9999]

attribute [local go_sem] eql58_some
theorem eql66_none (w : World) (n c n' c' : Nat) : (binOp .eql 66 (.slice none n c) (.slice none n' c')).run Yba.prog w = .ok (.bool true) w := by
  have h : ∀ d : Nat, (Op.equalIn (d + 1) 66 (.slice none n c) (.slice none n' c')).run Yba.prog w = .ok true w := fun d => by
    simp [Op.equalIn, run_underlying Yba.underlying66]
  simp only [binOp]
  simp [Op.equal, Op.maxDepth, h 9999]
attribute [local go_sem] eql66_none
theorem eql66_some (w : World) (a : Addr) (n c n' c' : Nat) : (binOp .eql 66 (.slice (some a) n c) (.slice none n' c')).run Yba.prog w = .ok (.bool false) w := by
  have h : ∀ d : Nat, (Op.equalIn (d + 1) 66 (.slice (some a) n c) (.slice none n' c')).run Yba.prog w = .ok false w := fun d => by
    simp [Op.equalIn, run_underlying Yba.underlying66]
  simp only [binOp]
  simp [Op.equal, Op.maxDepth, h 9999]
attribute [local go_sem] eql66_some
end Go.Proofs.Ybulkbebo
