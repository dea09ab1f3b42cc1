/- rebuild and parts at a node. -/
import Derived.Test.YbulkbeboMem
namespace Go.Proofs.Ybulkbebo
open Go.RowKit
open Classical
attribute [local go_sem] neq_func75 neq_func76 neq_nil76 as45_45 as53_45 as63_45 as72_45 as45_63 as53_63 as63_63 as72_63 as45_72 as53_72 as63_72 as72_72 as45_95 as53_95 as63_95 as72_95 eql58_none eql58_some eql66_none eql66_some
set_option linter.unusedSimpArgs false
set_option linter.unusedVariables false

def pvalOf (E : Env) : Value := if E.use = true then .func (.func 11) #[] #[fp E.pv, fp E.cv, fp E.gv] else .nilFunc

def RebR (E : Env) (F : Nat → Prop) (D : List (Ky × Ky)) (w : World) (i : Nat) (v : Value) (w1 : World) : Prop :=
  ∃ ks : Ky, v = ks.val ∧ Grw (fun j => j = E.cr ∨ j = E.ac) w w1 ∧ Res E (More F w w1) w1 D i ks ∧ CntAt w1 E.ac (cntD E (D ++ [(E.tv i, ks)]) : Nat) ∧ CallsAt w1 E.cr (clD E (D ++ [(E.tv i, ks)]))

theorem CallsAt.congr {w : World} {cr : Nat} {f g : Nat → Int} (h : CallsAt w cr f) (e : ∀ i, i < 3 → f i = g i) : CallsAt w cr g :=
  ⟨fun i hi => by rw [← e i hi]; exact h.e i hi, h.fr, fun i hi => by rw [← e i hi]; exact h.b0 i hi⟩

theorem parts_node {E : Env} (ok : E.OK) {F : Nat → Prop} {w : World} (h : DagIn E F w) (c : Nat) (hc : c < E.n) : Calls Yba.prog 17 #[(E.tv c).val] w (PartsPost w (E.np c) (fun j => E.tv (E.kd c j))) := by
  have h4 := ok.k4 c hc
  have hm := ok.mle c hc
  rcases (by omega : (E.kind c = 0 ∨ E.kind c = 1) ∨ E.kind c = 2 ∨ E.kind c = 3) with q | q | q
  · rw [Env.np0 q]
    refine parts_leaf _ ?_ w _
    rcases q with q | q
    · exact .inl (ok.t0 c hc q)
    · exact .inr (by rw [ok.t1 c hc q])
  · rw [Env.np2 q]
    obtain ⟨v, h1, h2⟩ := (h.nam c hc q).ex
    have e : E.tv c = ⟨63, (E.tv c).b⟩ := by rw [← ok.t2 c hc q]
    rw [e]
    refine parts_named _ _ (by omega) _ v w h1 h2.rowV (fun j hj => ?_)
    have hk := ok.kid hc (by rw [Env.np2 q]; exact hj)
    exact ⟨ok.ok _ hk, (h.node _ hk).2⟩
  · rw [Env.np3 q]
    obtain ⟨v, ps, h1, h2, h3⟩ := (h.str c hc q).ex
    have e : E.tv c = ⟨72, (E.tv c).b⟩ := by rw [← ok.t3 c hc q]
    rw [e]
    refine parts_struct _ _ (by omega) _ ps v w h1 h2.rowV (fun j hj => (h3 j hj).2) (fun j hj => ?_)
    have hk := ok.kid hc (by rw [Env.np3 q]; exact hj)
    exact ⟨ok.ok _ hk, (h.node _ hk).2⟩

theorem rebuild_node {E : Env} {L : Lay} {w0 w : World} {D : List (Ky × Ky)} {F : Nat → Prop} {fs : List Gf} {v : Value} (ok : E.OK) (lo : LayOK E L) (hBw : E.B ≤ w.heap.size) (h : Mem E L w0 w (pvalOf E) D F fs v) (i : Nat) (hi : i < E.n) (hn : lk D (E.tv i) = none) (hd : ∀ j, j < E.np i → isD D (E.tv (E.kd i j))) :
    Calls Yba.prog 18 #[rwv (pvalOf E) E.ac, (E.tv i).val, .map (some L.r)] w (fun e w1 => ∃ v, e = .returned v ∧ RebR E F D w i v w1) := by
  have h4 := ok.k4 i hi
  have hm := ok.mle i hi
  have hni := h.dag.node i hi
  have hcb := cntD_le E ok D
  have toM : ∀ {w1 : World} j, F j → More F w w1 j := fun j hj => .inl hj
  have kpN : ∀ {w1}, Grw None' w w1 → Kp F w w1 := fun g => g.kp (fun j hj => ⟨h.flt j hj, fun e => e⟩)
  have leaf : ∀ {w1 : World}, (E.kind i = 0 ∨ (E.kind i = 1 ∧ E.use = false)) → Grw None' w w1 → RebR E F D w i (E.tv i).val w1 := fun {w1} q g => by
    have q3 : ¬ E.kind i = 3 := by omega
    have q2 : E.use = false ∨ E.kind i ≠ 1 := by
      rcases q with q | q
      · exact .inr (by omega)
      · exact .inl q.2
    refine ⟨E.tv i, rfl, g.mono (fun _ _ e => e.elim), ⟨fun _ => rfl, fun a b => ?_, fun _ _ c => by omega, fun _ _ c => by omega, ok.ok i hi, .inl hni.1, hni.2.grw g (fun e => e)⟩, ?_, ?_⟩
    · rcases q with q | q
      · omega
      · rw [q.2] at a; cases a
    · rw [cntD_add E ok D i hi _ hn, if_neg q3, Nat.add_zero]
      exact h.cnt.grw g (fun e => e)
    · exact (h.cls.grw g (fun e => e)).congr (fun k _ => (clD_same E ok D i hi _ q2 k).symm)
  rcases (by omega : E.kind i = 0 ∨ E.kind i = 1 ∨ E.kind i = 2 ∨ E.kind i = 3) with q | q | q | q
  · refine Calls.mono (rebuild_leaf w (E.tv i) (pvalOf E) E.ac L.r (.inl (ok.t0 i hi q))) ?_
    rintro e w1 ⟨v, rfl, rfl, g⟩
    exact ⟨_, rfl, leaf (.inl q) g⟩
  · cases hu : E.use with
    | false =>
      have e0 : pvalOf E = .nilFunc := by unfold pvalOf; rw [hu]; rfl
      refine Calls.mono (rebuild_leaf w (E.tv i) (pvalOf E) E.ac L.r (.inr ⟨by rw [ok.t1 i hi q], e0⟩)) ?_
      rintro e w1 ⟨v, rfl, rfl, g⟩
      exact ⟨_, rfl, leaf (.inr ⟨q, hu⟩) g⟩
    | true =>
      have e0 : pvalOf E = .func (.func 11) #[] #[fp E.pv, fp E.cv, fp E.gv] := by unfold pvalOf; rw [hu]; rfl
      have hpx := ok.plt i hi q
      rw [e0, ok.t1 i hi q]
      refine rebuild_param w (E.pool (E.pidx i)) E.ac L.r _ (RebR E F D w i) (fun W g => ?_)
      have hcl := (h.cls.grw g (fun e => e))
      refine Calls.mono (param11 W E.pv E.pr E.cv E.cr E.gv E.gr E.pool E.tgt (clD E D) (E.pidx i) hpx (h.dag.pool.grw g (fun e => e) (fun e => e)) (fun j hj => (h.dag.fpool.2.2 j hj).2.grw g (fun e => e)) (fun j hj e => ok.pinj j _ hj hpx e) (h.dag.tgt.grw g (fun e => e) (fun e => e)) (g.cellOf h.dag.cv (fun e => e)) hcl (by have := (clD_b E D (E.pidx i)).2; omega) ⟨fun e => h.fcr (e ▸ h.dag.ftgt.1), fun e => h.fcr (e ▸ h.dag.ftgt.2.1)⟩) ?_
      rintro e w1 ⟨rfl, g1, c1⟩
      have gg : Grw (fun j => j = E.cr ∨ j = E.ac) w w1 := (g.mono (fun _ _ e => e.elim)).step g1 (fun _ _ e => .inl e)
      have hg := h.dag.ftgt.2.2 (E.pidx i) hpx
      refine ⟨_, rfl, ⟨53, E.tgt (E.pidx i)⟩, rfl, gg, ⟨fun a => ?_, fun _ _ => rfl, fun _ _ c => by omega, fun _ _ c => by omega, .inr (.inl rfl), .inl hg.1, hg.2.grw gg (fun e => ?_)⟩, ?_, ?_⟩
      · rcases a with a | a
        · rw [hu] at a; cases a
        · rw [(ok.hs i hi).2 (.inl q)] at a; cases a
      · rcases e with e | e
        · exact h.fcr (e ▸ hg.1)
        · exact h.fac (e ▸ hg.1)
      · rw [cntD_add E ok D i hi _ hn, if_neg (by omega), Nat.add_zero]
        exact (h.cnt.grw g (fun e => e)).grw g1 (fun e => lo.ac e)
      · exact c1.congr (fun k hk => (clD_bump E ok D i hi _ hu q hn k hk).symm)
  · have e : E.tv i = ⟨63, (E.tv i).b⟩ := by rw [← ok.t2 i hi q]
    have hnp := Env.np2 q
    rw [e]
    refine Calls.mono (rebuild_named F w (E.tv i).b (E.m i) (by omega) (fun j => E.tv (E.kd i j)) (fun j => rr D (E.tv (E.kd i j))) (pvalOf E) E.ac L.r D h.flt (h.dag.nam i hi q) ⟨fun j hj => ?_, fun j hj => ?_, fun j hj => ?_⟩ h.map) ?_
    · have hk := ok.kid hi (by rw [hnp]; exact hj)
      exact ⟨ok.ok _ hk, (h.dag.node _ hk).2⟩
    · have hjn : j < E.np i := by rw [hnp]; exact hj
      have r := (h.good _ (ok.kid hi hjn) _ (hd j hjn).img).1
      exact ⟨r.ok, r.pl.2⟩
    · exact (hd j (by rw [hnp]; exact hj)).img
    rintro e' w1 ⟨v, rfl, k', rfl, g, s1, s2⟩
    refine ⟨_, rfl, k', rfl, g.mono (fun _ _ e => e.elim), ?_, ?_, ?_⟩
    · have kids := h.good.kids ok i hi (.inl q) hd
      rw [hnp] at kids
      by_cases ch : E.use = true ∧ E.has i = true
      · obtain ⟨a1, a2, a3⟩ := s2 (kids.2 ch)
        refine ⟨fun a => ?_, fun _ c => by omega, fun _ _ _ => ⟨a1, by omega, a3⟩, fun _ _ c => by omega, .inr (.inr (.inl a1)), a3.fb, ?_⟩
        · rcases a with a | a
          · rw [ch.1] at a; cases a
          · rw [ch.2] at a; cases a
        · obtain ⟨v, b1, _⟩ := a3.ex
          exact b1.pl
      · have hs := s1 (fun j hj => Classical.byContradiction fun hne => ch (kids.1 ⟨j, hj, hne⟩))
        have hs2 : k' = E.tv i := by rw [hs]; exact e.symm
        rw [hs2]
        exact ⟨fun _ => rfl, fun _ c => by omega, fun a b _ => absurd ⟨a, b⟩ ch, fun _ _ c => by omega, ok.ok i hi, .inl hni.1, hni.2.grw g (fun e => e)⟩
    · rw [cntD_add E ok D i hi _ hn, if_neg (by omega), Nat.add_zero]
      exact h.cnt.grw g (fun e => e)
    · exact (h.cls.grw g (fun e => e)).congr (fun k _ => (clD_same E ok D i hi _ (.inr (by omega)) k).symm)
  · have e : E.tv i = ⟨72, (E.tv i).b⟩ := by rw [← ok.t3 i hi q]
    have hnp := Env.np3 q
    rw [e]
    have rk : ∀ j, j < E.np i → Res E F w D (E.kd i j) (rr D (E.tv (E.kd i j))) := fun j hj => (h.good _ (ok.kid hi hj) _ (hd j hj).img).1
    refine Calls.mono (rebuild_struct F w (E.tv i).b (E.m i) (by omega) (fun j => E.tv (E.kd i j)) (fun j => rr D (E.tv (E.kd i j))) (pvalOf E) E.ac L.r (cntD E D : Nat) D h.flt h.fac lo.ra (h.dag.str i hi q) ⟨fun j hj => ?_, fun j hj => ?_, fun j hj => ?_⟩ (fun j hj => ⟨fun e => ?_, fun e => ?_⟩) (fun p hp e => ?_) h.map h.cnt (by omega) (by omega)) ?_
    · have hk := ok.kid hi (by rw [hnp]; exact hj)
      exact ⟨ok.ok _ hk, (h.dag.node _ hk).2⟩
    · have r := rk j (by rw [hnp]; exact hj)
      exact ⟨r.ok, r.pl.2⟩
    · exact (hd j (by rw [hnp]; exact hj)).img
    · exact h.fac (e ▸ (h.dag.node _ (ok.kid hi (by rw [hnp]; exact hj))).1)
    · exact h.fac (e ▸ (rk j (by rw [hnp]; exact hj)).pl.1)
    · obtain ⟨k, hk, e2⟩ := h.kyi p hp
      rw [e2] at e
      exact h.fac (e ▸ (h.dag.node k hk).1)
    rintro e' w1 ⟨v, rfl, k', rfl, g, c1, s1, s2⟩
    refine ⟨_, rfl, k', rfl, g.mono (fun _ _ e => .inr e), ?_, ?_, ?_⟩
    · have kids := h.good.kids ok i hi (.inr q) hd
      rw [hnp] at kids
      by_cases ch : E.use = true ∧ E.has i = true
      · obtain ⟨a1, a2, a3⟩ := s2 (kids.2 ch)
        refine ⟨fun a => ?_, fun _ c => by omega, fun _ _ c => by omega, fun _ _ _ => ⟨a1, by omega, a3⟩, .inr (.inr (.inr a1)), a3.fb, ?_⟩
        · rcases a with a | a
          · rw [ch.1] at a; cases a
          · rw [ch.2] at a; cases a
        · obtain ⟨v, ps, b1, _⟩ := a3.ex
          exact b1.pl
      · have hs := s1 (fun j hj => Classical.byContradiction fun hne => ch (kids.1 ⟨j, hj, hne⟩))
        have hs2 : k' = E.tv i := by rw [hs]; exact e.symm
        rw [hs2]
        exact ⟨fun _ => rfl, fun _ c => by omega, fun _ _ c => by omega, fun a b _ => absurd ⟨a, b⟩ ch, ok.ok i hi, .inl hni.1, hni.2.grw g (fun e => h.fac (e ▸ hni.1))⟩
    · rw [cntD_add E ok D i hi _ hn, if_pos q]
      rw [show ((cntD E D + E.m i : Nat) : Int) = (cntD E D : Nat) + (E.m i : Nat) from by omega]
      exact c1
    · exact (h.cls.grw g (fun e => lo.ac e.symm)).congr (fun k _ => (clD_same E ok D i hi _ (.inr (by omega)) k).symm)
end Go.Proofs.Ybulkbebo
