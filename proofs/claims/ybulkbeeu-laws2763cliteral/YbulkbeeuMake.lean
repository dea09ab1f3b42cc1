/- A machine that is being made: 'g.states = append(g.states, ..)'. -/
import Derived.Test.YbulkbeeuReach
namespace Go.Proofs.Ybulkbeeu
open Go.RowKit
set_option linter.unusedSimpArgs false
set_option linter.unusedVariables false

theorem Yba.i36 : (Yba.prog.info? 36).map (fun i => (i.zero, i.size, i.bytes)) = some (some (.agg #[.int .u8 0, .int .u8 0, .int .i64 0, .int .i64 0]), 4, 24) := by kernel_rfl

def stV (s : St) : List Value := [.int .u8 s.op, .int .u8 s.b, .int .i64 s.arg, .int .i64 0]
def stVs (l : List St) : List Value := l.flatMap stV

theorem stVs_snoc (l : List St) (s : St) : stVs (l ++ [s]) = stVs l ++ stV s := by simp [stVs]

theorem stVs_get : ∀ (l : List St) (i j : Nat), i < l.length → j < 4 → (stVs l)[i * 4 + j]? = (stV (l.getD i St.none))[j]?
  | [], i, j, h, _ => by simp at h
  | s :: l, 0, j, _, hj => by
    have : stVs (s :: l) = stV s ++ stVs l := by simp [stVs]
    rw [this, List.getElem?_append_left (by simp [stV]; omega)]
    simp
  | s :: l, i + 1, j, h, hj => by
    have : stVs (s :: l) = stV s ++ stVs l := by simp [stVs]
    rw [this, List.getElem?_append_right (by simp [stV]; omega)]
    have e : (i + 1) * 4 + j - (stV s).length = i * 4 + j := by simp [stV]; omega
    rw [e, stVs_get l i j (by simpa using h) hj]
    simp

structure Made (w0 w w1 : World) (G base : Nat) (cv : Value) (l : List St) (ao : Option Addr) (cap : Nat) : Prop where
  g0 : w0.heap.size ≤ G
  gb : G < base
  bs : base ≤ w.heap.size
  cs : w.cell? ⟨G, 0, none⟩ = some (.slice ao l.length cap)
  cf : w.frozen? ⟨G, 0, none⟩ = false
  c2 : w.cell? ⟨G, 2, none⟩ = some cv
  own : w.ownsRow base 36 4 (.slice ao l.length cap) l.length (stVs l)
  keep : ∀ k, k < base → k ≠ G → w.heap[k]? = w1.heap[k]?
  gr : w0.grownBy w none

theorem Made.ownNe {w0 w w1 : World} {G base : Nat} {cv : Value} {l : List St} {ao : Option Addr} {cap : Nat} (h : Made w0 w w1 G base cv l ao cap) {k : Nat} (hk : k < base) : some k ≠ (Value.slice ao l.length cap).ownBlock := by
  intro e
  have := h.own.lt k e.symm
  rcases h.own.2 with ⟨e2, _⟩ | ⟨g, c, cur, e2, hb, _⟩
  · rw [e2] at e; simp [Value.ownBlock] at e
  · rw [e2] at e
    simp [Value.ownBlock] at e
    omega

theorem Made.push {w0 w w1 w' : World} {G base : Nat} {cv : Value} {l : List St} {ao ao' : Option Addr} {cap cap' : Nat} (h : Made w0 w w1 G base cv l ao cap) {s : St}
    (hown : w'.ownsRow base 36 4 (.slice ao' (l.length + 1) cap') (l.length + 1) (stVs l ++ stV s)) (hg : w.grownBy w' (Value.slice ao l.length cap).ownBlock) :
    Made w0 (w'.setCell ⟨G, 0, none⟩ (.slice ao' (l.length + 1) cap')) w1 G base cv (l ++ [s]) ao' cap' := by
  have hsz := hg.size
  have hsz2 := (grown_setCell w' ⟨G, 0, none⟩ (.slice ao' (l.length + 1) cap')).size
  have a1 := h.g0; have a2 := h.gb; have a3 := h.bs; have a4 := h.gr.size
  have e : ∀ k, k < base → w'.heap[k]? = w.heap[k]? := fun k hk => hg.block k (by omega) (h.ownNe hk)
  have e2 : ∀ k, k < base → k ≠ G → (w'.setCell ⟨G, 0, none⟩ (.slice ao' (l.length + 1) cap')).heap[k]? = w.heap[k]? := fun k hk hne => (Below.heap_setCell w' ⟨G, 0, none⟩ _ k hne).trans (e k hk)
  have g1 : w0.grownBy w' none := grown_of_above h.gr hg (fun j hj => by
    rcases h.own.2 with ⟨e2, _⟩ | ⟨g, c, cur, e2, hb, _⟩
    · rw [e2] at hj; simp [Value.ownBlock] at hj
    · rw [e2] at hj
      simp [Value.ownBlock] at hj
      omega)
  refine ⟨a1, a2, by omega, ?_, ?_, ?_, ?_, fun k hk hne => (e2 k hk hne).trans (h.keep k hk hne), grown_of_above g1 (grown_setCell w' ⟨G, 0, none⟩ _) (fun j hj => by simp at hj; omega)⟩
  · rw [World.cell?_setCell_same _ _ _ ((cell_same (e G (by omega)) 0).trans h.cs)]
    simp
  · rw [World.frozen?_setCell]
    exact (frozen_same (e G (by omega)) 0).trans h.cf
  · have ho : (w'.setCell ⟨G, 0, none⟩ (.slice ao' (l.length + 1) cap')).cell? ⟨G, 2, none⟩ = w'.cell? ⟨G, 2, none⟩ := by
      apply World.cell?_setCell_other
      simp
    rw [ho]
    exact (cell_same (e G (by omega)) 2).trans h.c2
  · have := ownsRow_setCell_below hown (a := ⟨G, 0, none⟩) (by simpa using a2) (.slice ao' (l.length + 1) cap')
    rw [stVs_snoc]
    simpa using this

theorem Made.aft {w0 w w1 : World} {G base : Nat} {cv : Value} {l : List St} {ao : Option Addr} {cap : Nat} (h : Made w0 w w1 G base cv l ao cap) (x : Aft) : Made w0 (Ybulkbeeu.aft w x) w1 G base cv l ao cap := by
  have hb := aft_below w x
  have a1 := h.g0; have a2 := h.gb; have a3 := h.bs; have a4 := hb.size
  exact ⟨a1, a2, by omega, (cell_same (hb.block G (by omega)) 0).trans h.cs, (frozen_same (hb.block G (by omega)) 0).trans h.cf, (cell_same (hb.block G (by omega)) 2).trans h.c2, own_aft h.own x,
    fun k hk hne => (hb.block k (by omega)).trans (h.keep k hk hne), grown_trans h.gr (grown_aft w x none)⟩

/-- 'g.states = append(g.states, s)': the append. -/
theorem wpList_push36 {ops : Array Oper} {rest : List Oper} {o : Oper} {a : Act} {Q : Exit → Act → World → Prop} {W : World} (hgd : o.guard = none) (s x : Operand)
    (ho : o.op = .call { callee := .builtin .append, args := #[s, x], argTypes := #[30, 30] })
    (w0 w w1 : World) (G base : Nat) (cv : Value) (l : List St) (ao : Option Addr) (cap : Nat) (h : Made w0 w w1 G base cv l ao cap) (hp : l.length ≤ 1000) (st : St)
    (hW : W = w.alloc (.cells #[.int .u8 st.op, .int .u8 st.b, .int .i64 st.arg, .int .i64 0] 36))
    (hs : a.eval s = .slice ao l.length cap) (hx : a.eval x = .slice (some ⟨w.heap.size, 0, none⟩) 1 1)
    (hK : ∀ k cap' w', Hid (Made w0 (w'.setCell ⟨G, 0, none⟩ (.slice (some ⟨k, 0, none⟩) (l.length + 1) cap')) w1 G base cv (l ++ [st]) (some ⟨k, 0, none⟩) cap') →
      w'.cell? ⟨G, 0, none⟩ = some (.slice ao l.length cap) → w'.frozen? ⟨G, 0, none⟩ = false →
      wpList Yba.prog ops Q rest (a.put o.dst (.slice (some ⟨k, 0, none⟩) (l.length + 1) cap')) w') :
    wpList Yba.prog ops Q (o :: rest) a W := by
  obtain ⟨i0, hi0, hz0, hz1, hz2⟩ := info_parts Yba.i36
  have h2 := h.aft ⟨[.cells #[.int .u8 st.op, .int .u8 st.b, .int .i64 st.arg, .int .i64 0] 36], 0⟩
  have hW2 : W = Ybulkbeeu.aft w ⟨[.cells #[.int .u8 st.op, .int .u8 st.b, .int .i64 st.arg, .int .i64 0] 36], 0⟩ := hW
  rw [← hW2] at h2
  refine wpList_append_lies _ hgd s x 30 ho base 36 i0 _ 4 24 Yba.underlying30 hi0 hz0 hz1 hz2 rfl (by decide) _ l.length (stVs l) hs h2.own ⟨w.heap.size, 0, none⟩ 1 1 (stV st) hx rfl ?_ ?_ (by decide) (by unfold maxLen; omega) (by omega) h2.bs _ rfl ?_
  · intro j u hj
    rw [hW]
    match j, hj with
    | 0, hj => simp [stV] at hj; subst hj; simp [Addr.add]
    | 1, hj => simp [stV] at hj; subst hj; simp [Addr.add]
    | 2, hj => simp [stV] at hj; subst hj; simp [Addr.add]
    | 3, hj => simp [stV] at hj; subst hj; simp [Addr.add]
    | j + 4, hj => simp [stV] at hj
  · intro u hu
    simp [stV] at hu
    rcases hu with rfl | rfl | rfl | rfl <;> rfl
  · intro k cap' w' h3 h4 _ _
    have hq := h.gb
    have e : w'.heap[G]? = W.heap[G]? := h4.block G (by have := h2.bs; omega) (h2.ownNe hq)
    exact hK k cap' w' (h2.push h3 h4) ((cell_same e 0).trans h2.cs) ((frozen_same e 0).trans h2.cf)

end Go.Proofs.Ybulkbeeu
