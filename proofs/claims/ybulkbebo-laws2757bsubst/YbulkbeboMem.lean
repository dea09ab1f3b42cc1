/- Apply's memory. -/
import Derived.Test.YbulkbeboSt
namespace Go.Proofs.Ybulkbebo
open Go.RowKit
open Classical
attribute [local go_sem] neq_func75 neq_func76 neq_nil76 as45_45 as53_45 as63_45 as72_45 as45_63 as53_63 as63_63 as72_63 as45_72 as53_72 as63_72 as72_72 as45_95 as53_95 as63_95 as72_95 eql58_none eql58_some eql66_none eql66_some
set_option linter.unusedSimpArgs false
set_option linter.unusedVariables false

theorem own_set {w : World} {base e size n g cap : Nat} {xs : List Value} (h : w.ownsRow base e size (.slice (some ⟨g, 0, none⟩) n cap) n xs) (idx : Nat) (hi : idx < n * size) (u : Value) :
    (w.setCell ⟨g, idx, none⟩ u).ownsRow base e size (.slice (some ⟨g, 0, none⟩) n cap) n (xs.set idx u) := by
  refine ⟨by simpa using h.1, ?_⟩
  rcases h.2 with ⟨h1, _⟩ | ⟨g', cap', cur, hv, hb, hg, hc, hm, hs, ht⟩
  · cases h1
  · injection hv with h1 _ h3
    injection h1 with h1
    injection h1 with h1
    subst h1 h3
    refine .inr ⟨g, cap, cur.setIfInBounds idx u, rfl, hb, by simp [World.setCell, Array.getElem?_modify, hg], hc, hm, by simpa using hs, ?_⟩
    rw [← ht]
    simp [Array.toList_setIfInBounds, List.take_set]

theorem own_take {w : World} {base e size n g cap : Nat} {xs ys : List Value} (h : w.ownsRow base e size (.slice (some ⟨g, 0, none⟩) (n + 1) cap) (n + 1) (xs ++ ys)) (hx : xs.length = n * size) :
    w.ownsRow base e size (.slice (some ⟨g, 0, none⟩) n cap) n xs := by
  refine ⟨hx, ?_⟩
  rcases h.2 with ⟨h1, _⟩ | ⟨g', cap', cur, hv, hb, hg, hc, hm, hs, ht⟩
  · cases h1
  · injection hv with h1 _ h3
    injection h1 with h1
    injection h1 with h1
    subst h1 h3
    refine .inr ⟨g, cap, cur, rfl, hb, hg, by omega, hm, hs, ?_⟩
    have h2 : (cur.toList.take ((n + 1) * size)).take (n * size) = (xs ++ ys).take (n * size) := by rw [ht]
    rw [List.take_take, Nat.min_eq_left (by rw [Nat.add_mul]; omega)] at h2
    rw [h2, ← hx, List.take_left]

def frs (E : Env) (fs : List Gf) : List Fr := fs.map (fun f => ⟨E.tv f.i, f.pv, f.nx⟩)
theorem frs_length (E : Env) (fs : List Gf) : (frs E fs).length = fs.length := by simp [frs]
theorem frs_snoc (E : Env) (fs : List Gf) (f : Gf) : frs E (fs ++ [f]) = frs E fs ++ [⟨E.tv f.i, f.pv, f.nx⟩] := by simp [frs]

/-- Where Apply's own blocks lie. -/
structure Lay where
  sv : Nat
  r : Nat
  dv : Nat
  rb : Nat

structure LayOK (E : Env) (L : Lay) : Prop where
  r1 : L.r < L.sv
  d1 : L.dv < L.sv
  b1 : L.rb < L.sv
  a1 : E.ac < L.sv
  c1 : E.cr < L.sv
  ra : L.r ≠ E.ac
  rc : L.r ≠ E.cr
  ac : E.ac ≠ E.cr
  oB : E.B ≤ L.sv

structure Mem (E : Env) (L : Lay) (w0 w : World) (pval : Value) (D : List (Ky × Ky)) (F : Nat → Prop) (fs : List Gf) (v : Value) : Prop where
  stk : StkAt w L.sv (L.sv + 1) v (frs E fs)
  nf : ∀ j, v.ownBlock = some j → ¬ F j
  flt : ∀ j, F j → j < w.heap.size
  fsv : ¬ F L.sv
  fr : ¬ F L.r
  fac : ¬ F E.ac
  fcr : ¬ F E.cr
  fdv : F L.dv
  frb : F L.rb
  cdv : w.cell? ⟨L.dv, 0, none⟩ = some (.map (some L.r))
  cr0 : w.cell? ⟨L.rb, 0, none⟩ = some pval
  cr1 : w.cell? ⟨L.rb, 1, none⟩ = some (.func (.func 10) #[] #[fp E.ac])
  cr2 : w.cell? ⟨L.rb, 2, none⟩ = some .nilFunc
  map : MapAt w L.r (vals D)
  cnt : CntAt w E.ac (cntD E D : Nat)
  cls : CallsAt w E.cr (clD E D)
  dag : DagIn E F w
  pts : ∀ f, f ∈ fs → RowK F w f.pv (E.np f.i) (fun j => (E.tv (E.kd f.i j)).val)
  good : Good E F w D
  g0 : Grw (fun j => j = E.cr ∨ j = E.ac) w0 w
  w0l : w0.heap.size ≤ L.r ∧ w0.heap.size ≤ L.sv
  kyi : ∀ p, p ∈ D → ∃ i, i < E.n ∧ p.1 = E.tv i

/-- A step that keeps the blocks of F, the map, the counts; the stack given anew. -/
theorem Mem.step {E : Env} {L : Lay} {w0 w w' : World} {pval : Value} {D : List (Ky × Ky)} {F F' : Nat → Prop} {fs fs' : List Gf} {v v' : Value} (h : Mem E L w0 w pval D F fs v) (lo : LayOK E L)
    {M : Nat → Prop} (g : Grw M w w') (hM : ∀ j, M j → L.sv ≤ j ∧ ¬ F j) (hF : ∀ j, F j → F' j) (hF' : ∀ j, F' j → F j ∨ (w.heap.size ≤ j ∧ j < w'.heap.size))
    (stk : StkAt w' L.sv (L.sv + 1) v' (frs E fs')) (nf : ∀ j, v'.ownBlock = some j → ¬ F' j) (pts : ∀ f, f ∈ fs' → RowK F' w' f.pv (E.np f.i) (fun j => (E.tv (E.kd f.i j)).val)) : Mem E L w0 w' pval D F' fs' v' := by
  have kp : Kp F w w' := g.kp (fun j hj => ⟨h.flt j hj, fun e => (hM j e).2 hj⟩)
  have nM : ∀ {j}, j < L.sv → ¬ M j := fun hj e => by have := (hM _ e).1; omega
  have nF : ∀ {j}, j < w.heap.size → ¬ F j → ¬ F' j := fun hj hn e => by
    rcases hF' _ e with e | e
    · exact hn e
    · omega
  have hsl : L.sv < w.heap.size := by have := h.stk.le; omega
  have := lo.r1; have := lo.a1; have := lo.c1
  refine ⟨stk, nf, fun j hj => ?_, nF hsl h.fsv, nF (by omega) h.fr, nF (by omega) h.fac, nF (by omega) h.fcr, hF _ h.fdv, hF _ h.frb, (cell_same (kp _ h.fdv) 0).trans h.cdv, (cell_same (kp _ h.frb) 0).trans h.cr0, (cell_same (kp _ h.frb) 1).trans h.cr1, (cell_same (kp _ h.frb) 2).trans h.cr2, h.map.grw g (nM lo.r1) (fun p hp e => ?_), h.cnt.grw g (nM lo.a1), h.cls.grw g (nM lo.c1), h.dag.kp kp hF, pts, h.good.kp kp hF, h.g0.step g (fun j h1 h2 => ?_), h.w0l, h.kyi⟩
  · rcases hF' j hj with e | e
    · exact Nat.lt_of_lt_of_le (h.flt j e) g.size
    · exact e.2
  · simp only [vals, List.mem_map] at hp
    obtain ⟨p', hp', rfl⟩ := hp
    obtain ⟨i, hi, e2⟩ := h.kyi p' hp'
    simp only at e
    rw [e2] at e
    exact (hM _ e).2 (h.dag.node i hi).1
  · have := (hM j h2).1
    have := h.w0l.2
    omega
theorem Mem.same {E : Env} {L : Lay} {w0 w w' : World} {pval : Value} {D : List (Ky × Ky)} {F : Nat → Prop} {fs : List Gf} {v : Value} (h : Mem E L w0 w pval D F fs v) (lo : LayOK E L) (g : Grw None' w w') : Mem E L w0 w' pval D F fs v :=
  h.step lo g (fun _ e => e.elim) (fun _ e => e) (fun _ e => .inl e) (h.stk.grwM g (fun e => e) (fun _ _ e => e)) h.nf (fun f hf => (h.pts f hf).kp (g.kp (fun j hj => ⟨h.flt j hj, fun e => e⟩)) (fun _ e => e))

theorem Mem.next {E : Env} {L : Lay} {w0 w : World} {pval : Value} {D : List (Ky × Ky)} {F : Nat → Prop} {fs : List Gf} {i nx gs cap : Nat} {pv : Value} (lo : LayOK E L) (h : Mem E L w0 w pval D F (fs ++ [⟨i, pv, nx⟩]) (.slice (some ⟨gs, 0, none⟩) (fs.length + 1) cap)) :
    Mem E L w0 (w.setCell ⟨gs, fs.length * 3 + 2, none⟩ (.int .i64 (nx + 1 : Nat))) pval D F (fs ++ [⟨i, pv, nx + 1⟩]) (.slice (some ⟨gs, 0, none⟩) (fs.length + 1) cap) := by
  have hgs := h.stk.own.lt gs rfl
  have hnf := h.nf gs rfl
  have g : Grw (fun j => j = gs) w (w.setCell ⟨gs, fs.length * 3 + 2, none⟩ (.int .i64 (nx + 1 : Nat))) := (Grw.refl (fun j => j = gs) w).setCell (a := ⟨gs, _, none⟩) (fun _ => rfl) _
  have len : (frs E (fs ++ [⟨i, pv, nx⟩])).length = fs.length + 1 := by rw [frs_length]; simp
  have len2 : (frs E (fs ++ [⟨i, pv, nx + 1⟩])).length = fs.length + 1 := by rw [frs_length]; simp
  refine h.step lo g (fun j e => ⟨by rw [e]; omega, by rw [e]; exact hnf⟩) (fun _ e => e) (fun _ e => .inl e) ?_ h.nf (fun f hf => ?_)
  · have hs : L.sv < gs := by omega
    refine ⟨g.cellOf h.stk.c0 (by show ¬ _ = gs; omega), (g.frozen (b := L.sv) (World.block_lt_of_cell? _ _ h.stk.c0) (by show ¬ L.sv = gs; omega)).trans h.stk.fr, h.stk.lt, Nat.le_trans h.stk.le g.size, ?_⟩
    have ho := h.stk.own
    rw [len] at ho
    have h2 := own_set ho (fs.length * 3 + 2) (by omega) (.int .i64 (nx + 1 : Nat))
    have e : (fcs (frs E (fs ++ [⟨i, pv, nx⟩]))).set (fs.length * 3 + 2) (.int .i64 (nx + 1 : Nat)) = fcs (frs E (fs ++ [⟨i, pv, nx + 1⟩])) := by
      rw [frs_snoc, frs_snoc, fcs_append, fcs_append]
      have hl : (fcs (frs E fs)).length = fs.length * 3 := by rw [fcs_length, frs_length]
      rw [List.set_append_right _ _ (by omega), hl, show fs.length * 3 + 2 - fs.length * 3 = 2 from by omega]
      rfl
    rw [e] at h2
    rw [len2]
    exact h2
  · rcases List.mem_append.1 hf with hf | hf
    · exact (h.pts f (List.mem_append.2 (.inl hf))).kp (g.kp (fun j hj => ⟨h.flt j hj, fun e => hnf (e ▸ hj)⟩)) (fun _ e => e)
    · simp only [List.mem_singleton] at hf
      subst hf
      exact (h.pts ⟨i, pv, nx⟩ (by simp)).kp (g.kp (fun j hj => ⟨h.flt j hj, fun e => hnf (e ▸ hj)⟩)) (fun _ e => e)

theorem Mem.push {E : Env} {L : Lay} {w0 w w' : World} {pval : Value} {D : List (Ky × Ky)} {F : Nat → Prop} {fs : List Gf} {v : Value} (lo : LayOK E L) (h : Mem E L w0 w pval D F fs v) (c : Nat) (hp : PushPost w (E.tv c) L.sv (L.sv + 1) v (frs E fs) (E.np c) (fun j => E.tv (E.kd c j)) w') :
    ∃ F' v' pv', Mem E L w0 w' pval D F' (fs ++ [⟨c, pv', 0⟩]) v' := by
  obtain ⟨v', pv, h1, h2, h3, h4⟩ := hp
  have hown := h.stk.own.lt
  have hsl : L.sv < w.heap.size := by have := h.stk.le; omega
  have kp : Kp F w w' := h2.kp (fun j hj => ⟨h.flt j hj, fun e => by
    rcases e with e | e
    · exact h.fsv (e ▸ hj)
    · exact h.nf j e hj⟩)
  refine ⟨fun j => F j ∨ pv.ownBlock = some j, v', pv, h.step lo h2 (fun j e => ?_) (fun _ e => .inl e) (fun j e => ?_) (by rw [frs_snoc]; exact h1) (fun j hj e => ?_) (fun f hf => ?_)⟩
  · rcases e with e | e
    · exact ⟨by omega, by rw [e]; exact h.fsv⟩
    · exact ⟨by have := (hown j e).1; omega, h.nf j e⟩
  · rcases e with e | e
    · exact .inl e
    · rcases h3 with ⟨rfl, _⟩ | ⟨g, cap, rfl, q1, q2, _⟩
      · cases e
      · have e2 : g = j := by simpa [Value.ownBlock] using e
        subst e2
        exact .inr ⟨q1, q2⟩
  · rcases e with e | e
    · rcases h4 j hj with q | q
      · exact h.nf j q e
      · have := h.flt j e; omega
    · rcases h3 with ⟨rfl, _⟩ | ⟨g, cap, rfl, q1, q2, _, q3, _⟩
      · cases e
      · have e2 : g = j := by simpa [Value.ownBlock] using e
        subst e2
        exact q3 hj
  · rcases List.mem_append.1 hf with hf | hf
    · exact (h.pts f hf).kp kp (fun _ e => .inl e)
    · simp only [List.mem_singleton] at hf
      subst hf
      simp only
      rcases h3 with h3 | ⟨g, cap, rfl, q1, q2, q4, q3, q5⟩
      · exact .inl h3
      · exact .inr ⟨g, cap, rfl, q4, .inr rfl, q5⟩

theorem Mem.pop {E : Env} {L : Lay} {w0 w : World} {pval : Value} {D : List (Ky × Ky)} {F : Nat → Prop} {fs : List Gf} {f : Gf} {gs cap : Nat} (lo : LayOK E L) (h : Mem E L w0 w pval D F (fs ++ [f]) (.slice (some ⟨gs, 0, none⟩) (fs.length + 1) cap)) :
    Mem E L w0 (w.setCell ⟨L.sv, 0, none⟩ (.slice (some ⟨gs, 0, none⟩) fs.length cap)) pval D F fs (.slice (some ⟨gs, 0, none⟩) fs.length cap) := by
  have hgs := h.stk.own.lt gs rfl
  have g : Grw (fun j => j = L.sv) w (w.setCell ⟨L.sv, 0, none⟩ (.slice (some ⟨gs, 0, none⟩) fs.length cap)) := (Grw.refl (fun j => j = L.sv) w).setCell (a := ⟨L.sv, 0, none⟩) (fun _ => rfl) _
  have len : (frs E (fs ++ [f])).length = fs.length + 1 := by rw [frs_length]; simp
  refine h.step lo g (fun j e => ⟨by omega, by rw [e]; exact h.fsv⟩) (fun _ e => e) (fun _ e => .inl e) ?_ (fun j hj => h.nf j hj) (fun x hx => ?_)
  · refine ⟨World.cell?_setCell_same _ _ _ h.stk.c0, by rw [World.frozen?_setCell]; exact h.stk.fr, h.stk.lt, Nat.le_trans h.stk.le g.size, ?_⟩
    have ho := h.stk.own
    rw [len, frs_snoc, fcs_append] at ho
    have h2 := own_take ho (by rw [fcs_length, frs_length])
    rw [frs_length]
    exact ownsRow_setCell_below h2 (a := ⟨L.sv, 0, none⟩) (by simp) _
  · exact (h.pts x (List.mem_append.2 (.inl hx))).kp (g.kp (fun j hj => ⟨h.flt j hj, fun e => h.fsv (e ▸ hj)⟩)) (fun _ e => e)

/-- Behind rebuild and the map's update. -/
theorem Mem.rebuilt {E : Env} {L : Lay} {w0 w w1 : World} {pval : Value} {D : List (Ky × Ky)} {F : Nat → Prop} {fs : List Gf} {v : Value} (ok : E.OK) (lo : LayOK E L) (h : Mem E L w0 w pval D F fs v) (i : Nat) (hi : i < E.n) (ks : Ky) (hn : lk D (E.tv i) = none) (hd : ∀ j, j < E.np i → isD D (E.tv (E.kd i j)))
    (g : Grw (fun j => j = E.cr ∨ j = E.ac) w w1) (hr : Res E (More F w w1) w1 D i ks) (hc : CntAt w1 E.ac (cntD E (D ++ [(E.tv i, ks)]) : Nat)) (hcl : CallsAt w1 E.cr (clD E (D ++ [(E.tv i, ks)])))
    (es : Array MapEntry) (c : Nat) (hh : Holds es.toList (vals D ++ [(E.tv i, ks.val)])) : Mem E L w0 (putObj w1 L.r (.map es c)) pval (D ++ [(E.tv i, ks)]) (More F w w1) fs v := by
  have hsl : L.sv < w.heap.size := by have := h.stk.le; omega
  have := lo.r1; have := lo.a1; have := lo.c1
  have kp1 : Kp F w w1 := g.kp (fun j hj => ⟨h.flt j hj, fun e => by
    rcases e with e | e
    · exact h.fcr (e ▸ hj)
    · exact h.fac (e ▸ hj)⟩)
  have nF : ∀ {j}, j < w.heap.size → ¬ F j → ¬ More F w w1 j := fun hj hn e => by
    rcases e with e | e
    · exact hn e
    · omega
  have fr1 : ¬ More F w w1 L.r := nF (by omega) h.fr
  have kp2 : Kp (More F w w1) w1 (putObj w1 L.r (.map es c)) := fun j hj => by
    have : j ≠ L.r := fun e => fr1 (e ▸ hj)
    simp [putObj, Array.getElem?_setIfInBounds, Ne.symm this]
  have g2 : Grw (fun j => j = L.r) w1 (putObj w1 L.r (.map es c)) := (Grw.refl _ w1).put (fun _ => rfl)
  have sz : (putObj w1 L.r (.map es c)).heap.size = w1.heap.size := by simp [putObj]
  have toM : ∀ j, F j → More F w w1 j := fun j hj => .inl hj
  have ok1 : ∀ j, j < L.sv + 1 → j ≠ E.cr → j ≠ E.ac → j ≠ L.r → (putObj w1 L.r (.map es c)).heap[j]? = w.heap[j]? := fun j h1 h2 h3 h4 =>
    (g2.block j (by have := g.size; omega) h4).trans (g.block j (by omega) (fun e => by rcases e with e | e <;> contradiction))
  have hown := h.stk.own.lt
  have e1 := fun j hj => (kp2 j (toM j hj)).trans (kp1 j hj)
  have kpl : Kp F w (putObj w1 L.r (.map es c)) := fun j hj => e1 j hj
  have ho : ∀ k, v.ownBlock = some k → (putObj w1 L.r (.map es c)).heap[k]? = w.heap[k]? := fun k hk => by
    have q := hown k hk
    exact (g2.block k (by have := g.size; omega) (by show ¬ k = L.r; omega)).trans (g.block k q.2 (fun e => by rcases e with e | e <;> omega))
  have esv := ok1 L.sv (by omega) (by omega) (by omega) (by omega)
  have keyF : ∀ p, p ∈ D → F p.1.b ∧ Plain w p.1.b := fun p hp => by
    obtain ⟨q, hq, e⟩ := h.kyi p hp
    rw [e]; exact h.dag.node q hq
  have hm1 : MapAt w1 L.r (vals D) := h.map.grw g (fun e => by rcases e with e | e; exact lo.rc e; exact lo.ra e) (fun p hp e => by
    simp only [vals, List.mem_map] at hp
    obtain ⟨p', hp', rfl⟩ := hp
    have := (keyF p' hp').1
    simp only at e
    rcases e with e | e
    · exact h.fcr (e ▸ this)
    · exact h.fac (e ▸ this))
  have hvals : vals (D ++ [(E.tv i, ks)]) = vals D ++ [(E.tv i, ks.val)] := by simp [vals]
  have hni := h.dag.node i hi
  refine ⟨⟨(cell_same esv 0).trans h.stk.c0, (frozen_same esv 0).trans h.stk.fr, h.stk.lt, by rw [sz]; have := h.stk.le; have := g.size; omega, own_same h.stk.own ho⟩, fun j hj => nF (hown j hj).2 (h.nf j hj), fun j hj => ?_, nF hsl h.fsv, fr1, nF (by omega) h.fac, nF (by omega) h.fcr, .inl h.fdv, .inl h.frb, (cell_same (kpl _ h.fdv) 0).trans h.cdv, (cell_same (kpl _ h.frb) 0).trans h.cr0, (cell_same (kpl _ h.frb) 1).trans h.cr1, (cell_same (kpl _ h.frb) 2).trans h.cr2, ?_, hc.grw g2 (fun e => lo.ra e.symm), hcl.grw g2 (fun e => lo.rc e.symm), h.dag.kp kpl toM, fun f hf => (h.pts f hf).kp kpl toM, ?_, (h.g0.trans g).step g2 (fun j h1 h2 => by have := h.w0l.1; omega), h.w0l, fun p hp => ?_⟩
  · rw [sz]
    rcases hj with hj | hj
    · exact Nat.lt_of_lt_of_le (h.flt j hj) g.size
    · exact hj.2
  · rw [hvals]
    refine hm1.add hh (hni.2.same (kp1 _ hni.1)) (fun e => h.fr (e ▸ hni.1)) (fun p hp e => ?_)
    simp only [vals, List.mem_map] at hp
    obtain ⟨p', hp', rfl⟩ := hp
    exact h.fr (e ▸ (keyF p' hp').1)
  · exact ((h.good.kp kp1 toM).add ok i hi ks hn hd hr).kp kp2 (fun _ e => e)
  · rcases List.mem_append.1 hp with hp | hp
    · exact h.kyi p hp
    · simp only [List.mem_singleton] at hp
      subst hp
      exact ⟨i, hi, rfl⟩
end Go.Proofs.Ybulkbebo
