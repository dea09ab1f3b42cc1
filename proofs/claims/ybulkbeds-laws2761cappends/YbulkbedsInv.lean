/- What the law keeps of the Round behind the pointer, and the step laws for regions that draw. -/
import Derived.Test.YbulkbedsCap
import Derived.Test.YbulkbedsAft
import Derived.Deep.RegionLaw
import Derived.Deep.LoopGhost
namespace Go.Proofs.Ybulkbeds
open Go.RowKit
set_option linter.unusedSimpArgs false
set_option linter.unusedVariables false

theorem step_append_own {P : Program} {ops : Array Oper} {o : Oper} {a : Act} {w : World} {K : Act → World → Prop} {Q : Exit → Act → World → Prop} {E : Prop}
    (hg : o.guard = none) (s x : Operand) (t : TypeId) (hop : o.op = Op.call { callee := Callee.builtin Builtin.append, args := #[s, x], argTypes := #[t, t] })
    (base : Nat) (e : TypeId) (i : TypeInfo) (z : Value) (size bytes : Nat) (ht : P.underlying t = some (.slice e)) (hi : P.info? e = some i) (hz : i.zero = some z)
    (hsize : i.size = size) (hby : i.bytes = bytes) (hzs : z.cells.size = size) (hsz : 0 < size)
    (v : Value) (n : Nat) (xs : List Value) (hs : a.eval s = v) (hown : w.ownsRow base e size v n xs)
    (ad : Addr) (m c : Nat) (news : List Value) (hx : a.eval x = .slice (some ad) m c) (hl : news.length = m * size) (hnews : ∀ j u, news[j]? = some u → w.cell? (ad.add j) = some u) (h1 : ∀ u ∈ news, u.oneCell' = true)
    (h63 : n + m ≤ maxLen) (hbytes : (n + m) * bytes ≤ 140737488355328) (hbase : base ≤ w.heap.size)
    (h : ∀ v' w', w'.ownsRow base e size v' (n + m) (xs ++ news) → w.grownBy w' v.ownBlock → K (a.put o.dst v') w') :
    if Region.wanted o (yielded ops a.tmps) = true then Oper.wp P o a w K Q else E := by
  have hw : Region.wanted o (yielded ops a.tmps) = true := by simp [Region.wanted, hg]
  rw [if_pos hw]
  exact wp_append_own w s x t hop base e i z size bytes ht hi hz hsize hby hzs hsz v n xs hs hown ad m c news hx hl hnews h1 h63 hbytes hbase fun v' w' h2 h3 _ => h v' w' h2 h3

/-- The five cells of one attempt. -/
def att (x : Int × Bool) : List Value := [.int .u64 0, .int .u64 0, .pointer none, .int .u16 x.1, .bool x.2]
def rows (l : List (Int × Bool)) : List Value := l.flatMap att

theorem rows_length (l : List (Int × Bool)) : (rows l).length = l.length * 5 := by
  induction l with
  | nil => rfl
  | cons x l ih => simp only [rows, List.flatMap_cons, List.length_append] at *; rw [ih]; simp [att]; omega

theorem rows_snoc (l : List (Int × Bool)) (x : Int × Bool) : rows (l ++ [x]) = rows l ++ att x := by simp [rows]

/-- Cell 5 i + j of the rows is cell j of attempt i. -/
theorem rows_get (l : List (Int × Bool)) : ∀ (i j : Nat), j < 5 → i < l.length → (rows l)[i * 5 + j]? = (att (l.getD i (0, false)))[j]? := by
  induction l with
  | nil => intro i j _ h; simp at h
  | cons x l ih =>
    intro i j hj hi
    have e : rows (x :: l) = att x ++ rows l := by simp [rows]
    have hl : (att x).length = 5 := rfl
    rw [e]
    cases i with
    | zero => rw [List.getElem?_append_left (by omega)]; simp
    | succ i =>
      rw [List.getElem?_append_right (by omega), hl]
      have := ih i j hj (by simpa using hi)
      rw [show (i + 1) * 5 + j - 5 = i * 5 + j from by omega, this]
      simp

structure Inv (w0 w : World) (R : Nat) (ao : Option Addr) (cap : Nat) (l : List (Int × Bool)) : Prop where
  size : R < w.heap.size
  q : w.cell? ⟨R, 10, none⟩ = some (.slice ao l.length cap)
  wt : w.cell? ⟨R, 11, none⟩ = some (.int .i64 0)
  uh : w.cell? ⟨R, 13, none⟩ = some (.slice none 0 0)
  fz : w.frozen? ⟨R, 10, none⟩ = false
  own : w.ownsRow (R + 1) 65 5 (.slice ao l.length cap) l.length (rows l)
  bel : Below R w0 w

theorem Inv.alloc {w0 w : World} {R : Nat} {ao : Option Addr} {cap : Nat} {l : List (Int × Bool)} (h : Inv w0 w R ao cap l) (o : Obj) : Inv w0 (w.alloc o) R ao cap l :=
  ⟨by have := h.size; simp; omega, (World.cell?_alloc_past _ _ _ h.size).trans h.q, (World.cell?_alloc_past _ _ _ h.size).trans h.wt, (World.cell?_alloc_past _ _ _ h.size).trans h.uh,
    (World.frozen?_of_block (Below.heap_alloc w o R h.size)).trans h.fz, h.own.alloc o, h.bel.alloc (Nat.le_of_lt h.size) o⟩

theorem Inv.drew {w0 w : World} {R : Nat} {ao : Option Addr} {cap : Nat} {l : List (Int × Bool)} (h : Inv w0 w R ao cap l) : Inv w0 w.drew R ao cap l :=
  ⟨h.size, h.q, h.wt, h.uh, h.fz, h.own.drew, h.bel.drew⟩

theorem Inv.push {w0 w w' : World} {R : Nat} {ao ao' : Option Addr} {cap cap' n' : Nat} {l : List (Int × Bool)} {x : Int × Bool} (h : Inv w0 w R ao cap l)
    (hown : w'.ownsRow (R + 1) 65 5 (.slice ao' n' cap') (l.length + 1) (rows l ++ att x)) (hg : w.grownBy w' (Value.slice ao l.length cap).ownBlock) :
    Inv w0 (w'.setCell ⟨R, 10, none⟩ (.slice ao' n' cap')) R ao' cap' (l ++ [x]) := by
  have hne : some R ≠ (Value.slice ao l.length cap).ownBlock := by
    intro e
    have := h.own.lt R e.symm
    omega
  have hb : w'.heap[R]? = w.heap[R]? := hg.block R h.size hne
  have hc : ∀ o, w'.cell? ⟨R, o, none⟩ = w.cell? ⟨R, o, none⟩ := fun o => World.cell?_of_block (a := ⟨R, o, none⟩) hb
  have hf : ∀ o, w'.frozen? ⟨R, o, none⟩ = w.frozen? ⟨R, o, none⟩ := fun o => World.frozen?_of_block (a := ⟨R, o, none⟩) hb
  have hn' : n' = l.length + 1 := by
    rcases hown.2 with ⟨_, h0⟩ | ⟨g, c, cur, e, _⟩
    · omega
    · simp at e; omega
  subst hn'
  refine ⟨?_, ?_, ?_, ?_, ?_, ?_, ?_⟩
  · have := hg.size; have := h.size; simp; omega
  · rw [World.cell?_setCell_same _ _ _ ((hc 10).trans h.q)]
    simp
  · rw [World.cell?_setCell_other _ _ _ _ (by simp), hc, h.wt]
  · rw [World.cell?_setCell_other _ _ _ _ (by simp), hc, h.uh]
  · simp [hf, h.fz]
  · rw [rows_snoc]
    simpa using ownsRow_setCell_below hown (a := ⟨R, 10, none⟩) (by simp) _
  · refine (h.bel.grown hg (Nat.le_of_lt h.size) ?_).setCell (by simp) _
    intro k hk
    have := h.own.lt k hk
    omega

theorem Yba.info65 : (Yba.prog.info? 65).map (fun i => (i.zero, i.size, i.bytes)) = some (some (.agg #[.int .u64 0, .int .u64 0, .pointer none, .int .u16 0, .bool false]), 5, 40) := by kernel_rfl

/-- Block S holds the servers of these ports. -/
def Srv (w : World) (S : Nat) (ps : List Int) : Prop := ∃ cur, w.heap[S]? = some (.cells cur 62 (0, 0)) ∧ ∀ i, i < ps.length →
  cur[i * 4]? = some (.int .u64 0) ∧ cur[i * 4 + 1]? = some (.int .u64 0) ∧ cur[i * 4 + 2]? = some (.pointer none) ∧ cur[i * 4 + 3]? = some (.int .u16 (ps.getD i 0))

theorem Srv.cells {w : World} {S : Nat} {ps : List Int} (h : Srv w S ps) {i : Nat} (hi : i < ps.length) :
    w.cell? ⟨S, i * 4, none⟩ = some (.int .u64 0) ∧ w.cell? ⟨S, i * 4 + 1, none⟩ = some (.int .u64 0) ∧ w.cell? ⟨S, i * 4 + 2, none⟩ = some (.pointer none) ∧ w.cell? ⟨S, i * 4 + 3, none⟩ = some (.int .u16 (ps.getD i 0)) := by
  obtain ⟨cur, hb, hc⟩ := h
  obtain ⟨h0, h1, h2, h3⟩ := hc i hi
  simp [World.cell?, hb, h0, h1, h2, h3]

theorem Srv.lt {w : World} {S : Nat} {ps : List Int} (h : Srv w S ps) : S < w.heap.size := by
  obtain ⟨cur, hb, _⟩ := h
  exact (Array.getElem?_eq_some_iff.1 hb).1

theorem Srv.alloc {w : World} {S : Nat} {ps : List Int} (h : Srv w S ps) (o : Obj) : Srv (w.alloc o) S ps := by
  have hlt := h.lt
  obtain ⟨cur, hb, hc⟩ := h
  exact ⟨cur, (Below.heap_alloc w o S hlt).trans hb, hc⟩

theorem Srv.drew {w : World} {S : Nat} {ps : List Int} (h : Srv w S ps) : Srv w.drew S ps := h

theorem att_one (y : Int × Bool) : ∀ u ∈ att y, u.oneCell' = true := by
  intro u hu
  simp [att] at hu
  rcases hu with rfl | rfl | rfl | rfl <;> rfl

theorem att_new (w : World) (B : Nat) (hB : B = w.heap.size) (p : Int) (t : Bool) : ∀ j u, (att (p, t))[j]? = some u →
    (w.alloc (.cells #[.int .u64 0, .int .u64 0, .pointer none, .int .u16 p, .bool t] 65)).drew.cell? ((⟨B, 0, none⟩ : Addr).add j) = some u := by
  intro j u hj
  subst hB
  match j, hj with
  | 0, hj => simp [att] at hj; subst hj; simp [Addr.add]
  | 1, hj => simp [att] at hj; subst hj; simp [Addr.add]
  | 2, hj => simp [att] at hj; subst hj; simp [Addr.add]
  | 3, hj => simp [att] at hj; subst hj; simp [Addr.add]
  | 4, hj => simp [att] at hj; subst hj; simp [Addr.add]
  | j + 5, hj => simp [att] at hj

/-- 'r.queue = append(r.queue, Attempt{..})', the append as one step of a region that draws. -/
theorem step_push {ops : Array Oper} {o : Oper} {a : Act} {w : World} {K : Act → World → Prop} {Q : Exit → Act → World → Prop} {E : Prop}
    (hg : o.guard = none) (s x : Operand) (hop : o.op = Op.call { callee := Callee.builtin Builtin.append, args := #[s, x], argTypes := #[46, 46] })
    (w0 : World) (R : Nat) (ao : Option Addr) (cap : Nat) (l : List (Int × Bool)) (hin : Inv w0 w R ao cap l) (hl : l.length ≤ 4096)
    (hs : a.eval s = .slice ao l.length cap) (ad : Addr) (hx : a.eval x = .slice (some ad) 1 1) (y : Int × Bool) (hnews : ∀ j u, (att y)[j]? = some u → w.cell? (ad.add j) = some u)
    (h : ∀ ao' cap' w', Inv w0 (w'.setCell ⟨R, 10, none⟩ (.slice ao' (l.length + 1) cap')) R ao' cap' (l ++ [y]) → w'.cell? ⟨R, 10, none⟩ = some (.slice ao l.length cap) → w'.frozen? ⟨R, 10, none⟩ = false →
      Hid (∀ S ps, R < S → Srv w S ps → Srv (w'.setCell ⟨R, 10, none⟩ (.slice ao' (l.length + 1) cap')) S ps) → K (a.put o.dst (.slice ao' (l.length + 1) cap')) w') :
    if Region.wanted o (yielded ops a.tmps) = true then Oper.wp Yba.prog o a w K Q else E := by
  obtain ⟨i0, hi0, hz0, hz1, hz2⟩ := info_parts Yba.info65
  refine step_append_own hg s x 46 hop (R + 1) 65 i0 _ 5 40 Yba.underlying46 hi0 hz0 hz1 hz2 rfl (by decide) _ l.length (rows l) hs hin.own ad 1 1 (att y) hx rfl hnews (att_one y) (by unfold maxLen; omega) (by omega) hin.size ?_
  intro v' w' hown hgrow
  have hform : ∃ ao' cap', v' = .slice ao' (l.length + 1) cap' := by
    rcases hown.2 with ⟨_, h0⟩ | ⟨g, c, cur, e, _⟩
    · omega
    · exact ⟨_, _, e⟩
  obtain ⟨ao', cap', rfl⟩ := hform
  have hne : some R ≠ (Value.slice ao l.length cap).ownBlock := by
    intro e
    have := hin.own.lt R e.symm
    omega
  have hb : w'.heap[R]? = w.heap[R]? := hgrow.block R hin.size hne
  refine h ao' cap' w' (hin.push hown hgrow) ((World.cell?_of_block (a := ⟨R, 10, none⟩) hb).trans hin.q) ((World.frozen?_of_block (a := ⟨R, 10, none⟩) hb).trans hin.fz) ?_
  intro S ps hRS hsv
  have hlt := hsv.lt
  obtain ⟨cur, hbS, hc⟩ := hsv
  refine ⟨cur, ?_, hc⟩
  rw [Below.heap_setCell _ _ _ _ (show S ≠ R from by omega), hgrow.block S hlt ?_, hbS]
  intro e
  rcases hin.own.2 with ⟨e1, _⟩ | ⟨g, c, cur', e1, _, hb', _⟩
  · rw [e1] at e; simp [Value.ownBlock] at e
  · rw [e1] at e
    simp [Value.ownBlock] at e
    subst e
    rw [hb'] at hbS
    simp at hbS

theorem Yba.info62 : (Yba.prog.info? 62).map (fun i => (i.zero, i.size, i.bytes)) = some (some (.agg #[.int .u64 0, .int .u64 0, .pointer none, .int .u16 0]), 4, 32) := by kernel_rfl

/-- What 'make([]netip.AddrPort, n)' lays. -/
def srvCells (n : Nat) : Array Value := madeCells (Value.agg #[.int .u64 0, .int .u64 0, .pointer none, .int .u16 0]).cells (n * 4)
theorem srvCells_size (n : Nat) : (srvCells n).size = n * 4 := size_madeCells _ _

theorem run_make_srv (n : Nat) (hn : n ≤ 1024) (w : World) :
    (Instr.makeSlice 48 (.int .i64 (n : Int)) (.int .i64 (n : Int))).run Yba.prog w = .ok (.slice (some ⟨w.heap.size, 0, none⟩) n n) (w.alloc (.cells (srvCells n) 62)) := by
  obtain ⟨i0, hi0, hz0, hz1, hz2⟩ := info_parts Yba.info62
  have hr := run_make (P := Yba.prog) w 48 62 i0 _ Yba.underlying48 hi0 hz0 .i64 .i64 n n (by omega) (Int.le_refl _) (by rw [hz2]; omega) (by omega)
  simp only [Int.toNat_natCast, hz1] at hr
  exact hr

/-- Block S has room for n servers, the first k of which are laid. -/
def SrvK (w : World) (S : Nat) (ps : List Int) (n k : Nat) : Prop := ∃ cur, w.heap[S]? = some (.cells cur 62 (0, 0)) ∧ cur.size = n * 4 ∧ ∀ i, i < k →
  cur[i * 4]? = some (.int .u64 0) ∧ cur[i * 4 + 1]? = some (.int .u64 0) ∧ cur[i * 4 + 2]? = some (.pointer none) ∧ cur[i * 4 + 3]? = some (.int .u16 (ps.getD i 0))

theorem SrvK.srv {w : World} {S : Nat} {ps : List Int} {n : Nat} (h : SrvK w S ps n ps.length) : Srv w S ps := by
  obtain ⟨cur, hb, _, hc⟩ := h
  exact ⟨cur, hb, hc⟩

theorem SrvK.lt {w : World} {S : Nat} {ps : List Int} {n k : Nat} (h : SrvK w S ps n k) : S < w.heap.size := by
  obtain ⟨cur, hb, _⟩ := h
  exact (Array.getElem?_eq_some_iff.1 hb).1

theorem SrvK.alloc {w : World} {S : Nat} {ps : List Int} {n k : Nat} (h : SrvK w S ps n k) (o : Obj) : SrvK (w.alloc o) S ps n k := by
  have hlt := h.lt
  obtain ⟨cur, hb, hc⟩ := h
  exact ⟨cur, (Below.heap_alloc w o S hlt).trans hb, hc⟩

theorem SrvK.start (w : World) (ps : List Int) (n : Nat) : SrvK (w.alloc (.cells (srvCells n) 62)) w.heap.size ps n 0 :=
  ⟨srvCells n, heap_alloc_new w _, srvCells_size n, fun i hi => by omega⟩

/-- The four cells of the next one are there, and may be written. -/
theorem SrvK.there {w : World} {S : Nat} {ps : List Int} {n k : Nat} (h : SrvK w S ps n k) (j : Nat) (hj : j < n * 4) : ∃ u, w.cell? ⟨S, j, none⟩ = some u := by
  obtain ⟨cur, hb, hs, _⟩ := h
  exact ⟨cur[j]'(by omega), by simp [World.cell?, hb, hs, hj]⟩

theorem SrvK.free {w : World} {S : Nat} {ps : List Int} {n k : Nat} (h : SrvK w S ps n k) (j : Nat) : w.frozen? ⟨S, j, none⟩ = false := by
  obtain ⟨cur, hb, hs, _⟩ := h
  simp [World.frozen?, hb]

theorem grownBy_setCell (w : World) (a : Addr) (u : Value) : w.grownBy (w.setCell a u) (some a.block) :=
  ⟨rfl, rfl, rfl, by simp [World.setCell], fun k _ hk => Below.heap_setCell w a u k (fun e => hk (by rw [e]))⟩

/-- A store into the servers' block does not touch the round or its queue. -/
theorem Inv.store {w0 w : World} {R S n k : Nat} {ps : List Int} {ao : Option Addr} {cap : Nat} {l : List (Int × Bool)} (h : Inv w0 w R ao cap l) (hs : SrvK w S ps n k) (hRS : R < S) (j : Nat) (u : Value) :
    Inv w0 (w.setCell ⟨S, j, none⟩ u) R ao cap l := by
  have hne : ∀ o, (⟨S, j, none⟩ : Addr) ≠ ⟨R, o, none⟩ := fun o e => absurd (congrArg Addr.block e) (Nat.ne_of_gt hRS)
  have hown : (Value.slice ao l.length cap).ownBlock = none ∨ (Value.slice ao l.length cap).ownBlock ≠ some S := by
    right
    intro e
    obtain ⟨cur, hb, _⟩ := hs
    rcases h.own.2 with ⟨e1, _⟩ | ⟨g, c, cur', e1, _, hb', _⟩
    · rw [e1] at e; simp [Value.ownBlock] at e
    · rw [e1] at e
      simp [Value.ownBlock] at e
      subst e
      rw [hb'] at hb
      simp at hb
  exact ⟨by simpa using h.size, (World.cell?_setCell_other _ _ _ _ (hne 10)).trans h.q, (World.cell?_setCell_other _ _ _ _ (hne 11)).trans h.wt, (World.cell?_setCell_other _ _ _ _ (hne 13)).trans h.uh,
    by simpa using h.fz, h.own.kept (grownBy_setCell w ⟨S, j, none⟩ u) hown, h.bel.setCell (Nat.le_of_lt hRS) u⟩

theorem setCell_block {w : World} {S j : Nat} {cur : Array Value} {t : TypeId} (hb : w.heap[S]? = some (.cells cur t (0, 0))) (hj : j < cur.size) (u : Value) :
    (w.setCell ⟨S, j, none⟩ u).heap[S]? = some (.cells (cur.setIfInBounds j u) t (0, 0)) := by
  obtain ⟨hlt, he⟩ := Array.getElem?_eq_some_iff.1 hb
  show (w.heap.modify S _)[S]? = _
  rw [Array.getElem?_eq_getElem (by simpa using hlt), Array.getElem_modify_self, he]
  rfl

theorem SrvK.put {w : World} {S : Nat} {ps : List Int} {n k : Nat} {p : Int} (h : SrvK w S ps n k) (hk : k < n) (hp : ps.getD k 0 = p) :
    SrvK ((((w.setCell ⟨S, k * 4, none⟩ (.int .u64 0)).setCell ⟨S, k * 4 + 1, none⟩ (.int .u64 0)).setCell ⟨S, k * 4 + 2, none⟩ (.pointer none)).setCell ⟨S, k * 4 + 3, none⟩ (.int .u16 p)) S ps n (k + 1) := by
  obtain ⟨cur, hb, hs, hc⟩ := h
  refine ⟨_, setCell_block (setCell_block (setCell_block (setCell_block hb (by omega) _) (by simp; omega) _) (by simp; omega) _) (by simp; omega) _, by simp [hs], ?_⟩
  intro i hi
  by_cases e : i = k
  · subst e
    subst hp
    simp [Array.getElem?_setIfInBounds, hs]
    refine ⟨?_, ?_, ?_, ?_⟩ <;> omega
  · obtain ⟨h0, h1, h2, h3⟩ := hc i (by omega)
    have hne : ∀ d d', d < 4 → d' < 4 → ¬ k * 4 + d' = i * 4 + d := by intro d d' _ _; omega
    have q : ∀ d, d < 4 → ((((cur.setIfInBounds (k * 4) (.int .u64 0)).setIfInBounds (k * 4 + 1) (.int .u64 0)).setIfInBounds (k * 4 + 2) (.pointer none)).setIfInBounds (k * 4 + 3) (.int .u16 p))[i * 4 + d]? = cur[i * 4 + d]? := by
      intro d hd
      rw [Array.getElem?_setIfInBounds_ne (hne d 3 hd (by omega)), Array.getElem?_setIfInBounds_ne (hne d 2 hd (by omega)), Array.getElem?_setIfInBounds_ne (hne d 1 hd (by omega)), Array.getElem?_setIfInBounds_ne (by have := hne d 0 hd (by omega); simpa using this)]
    exact ⟨(q 0 (by omega)).trans h0, (q 1 (by omega)).trans h1, (q 2 (by omega)).trans h2, (q 3 (by omega)).trans h3⟩

theorem SrvK.set {w : World} {S : Nat} {ps : List Int} {n k : Nat} (h : SrvK w S ps n k) (j : Nat) (h1 : k * 4 ≤ j) (h2 : j < n * 4) (u : Value) : SrvK (w.setCell ⟨S, j, none⟩ u) S ps n k := by
  obtain ⟨cur, hb, hs, hc⟩ := h
  refine ⟨_, setCell_block hb (by omega) u, by simp [hs], ?_⟩
  intro i hi
  obtain ⟨q0, q1, q2, q3⟩ := hc i hi
  exact ⟨(Array.getElem?_setIfInBounds_ne (by omega)).trans q0, (Array.getElem?_setIfInBounds_ne (by omega)).trans q1, (Array.getElem?_setIfInBounds_ne (by omega)).trans q2, (Array.getElem?_setIfInBounds_ne (by omega)).trans q3⟩

theorem Inv.put {w0 w : World} {R S n k : Nat} {ps : List Int} {ao : Option Addr} {cap : Nat} {l : List (Int × Bool)} (h : Inv w0 w R ao cap l) (hs : SrvK w S ps n k) (hRS : R < S) (hk : k < n) (a b c d : Value) :
    Inv w0 ((((w.setCell ⟨S, k * 4, none⟩ a).setCell ⟨S, k * 4 + 1, none⟩ b).setCell ⟨S, k * 4 + 2, none⟩ c).setCell ⟨S, k * 4 + 3, none⟩ d) R ao cap l := by
  have s1 := hs.set (k * 4) (by omega) (by omega) a
  have s2 := s1.set (k * 4 + 1) (by omega) (by omega) b
  have s3 := s2.set (k * 4 + 2) (by omega) (by omega) c
  exact (((h.store hs hRS _ a).store s1 hRS _ b).store s2 hRS _ c).store s3 hRS _ d

/-- What the queue's cells hold. -/
theorem Inv.qat {w0 w : World} {R : Nat} {ao : Option Addr} {cap : Nat} {l : List (Int × Bool)} (h : Inv w0 w R ao cap l) (i : Nat) (hi : i < l.length) : ∃ g, ao = some ⟨g, 0, none⟩ ∧ g < w.heap.size ∧
    w.cell? ⟨g, i * 5, none⟩ = some (.int .u64 0) ∧ w.cell? ⟨g, i * 5 + 1, none⟩ = some (.int .u64 0) ∧ w.cell? ⟨g, i * 5 + 2, none⟩ = some (.pointer none) ∧
    w.cell? ⟨g, i * 5 + 3, none⟩ = some (.int .u16 (l.getD i (0, false)).1) ∧ w.cell? ⟨g, i * 5 + 4, none⟩ = some (.bool (l.getD i (0, false)).2) := by
  have hown := h.own
  rcases hown.2 with ⟨_, h0⟩ | ⟨g, c, cur, e, _, hb, _⟩
  · omega
  · obtain ⟨rfl, _, rfl⟩ : ao = some ⟨g, 0, none⟩ ∧ l.length = l.length ∧ cap = c := by simpa using e
    have q := fun j (hj : j < 5) => (hown.cellAt (i * 5 + j) (by omega)).trans (rows_get l i j hj hi)
    exact ⟨g, rfl, lt_of_block hb, q 0 (by omega), q 1 (by omega), q 2 (by omega), q 3 (by omega), q 4 (by omega)⟩

theorem cap_aft (p : Int) (w : World) (x : Aft) : Calls Yba.prog 4 #[.int .u16 p] (aft w x) fun e w'' => e = .returned (.agg #[.int .u64 0, .int .u64 0, .pointer none, .int .u16 p]) ∧ ∃ x', w'' = aft w x' :=
by
  refine (cap p (aft w x)).mono fun e w' h => ⟨h.1, ?_⟩
  have hw := h.2
  rw [aft_alloc, aft_alloc, aft_alloc, aft_alloc] at hw
  exact ⟨_, hw⟩

theorem Inv.allocs {w0 : World} {R : Nat} {ao : Option Addr} {cap : Nat} {l : List (Int × Bool)} : ∀ (xs : List Obj) (w : World), Inv w0 w R ao cap l → Inv w0 (xs.foldl World.alloc w) R ao cap l
  | [], _, h => h
  | x :: xs, w, h => Inv.allocs xs (w.alloc x) (h.alloc x)

theorem Inv.aft {w0 w : World} {R : Nat} {ao : Option Addr} {cap : Nat} {l : List (Int × Bool)} (h : Inv w0 w R ao cap l) (x : Aft) : Inv w0 (aft w x) R ao cap l := by
  have h' := Inv.allocs x.xs w h
  exact ⟨h'.size, h'.q, h'.wt, h'.uh, h'.fz, h'.own, ⟨h'.bel.os, h'.bel.tape, h'.bel.output, h'.bel.size, h'.bel.block⟩⟩

theorem Srv.aft {w : World} {S : Nat} {ps : List Int} (h : Srv w S ps) (x : Aft) : Srv (aft w x) S ps := by
  have hlt := h.lt
  obtain ⟨cur, hb, hc⟩ := h
  exact ⟨cur, ((aft_below w x).block S hlt).trans hb, hc⟩

end Go.Proofs.Ybulkbeds
