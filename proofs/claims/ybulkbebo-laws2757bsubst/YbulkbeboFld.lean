/- MapFields' closure. -/
import Derived.Test.YbulkbeboAllF
import Derived.Test.YbulkbeboAllT
import Derived.Deep.DeepCutAuto
namespace Go.Proofs.Ybulkbebo
open Go.RowKit
open Classical
attribute [local go_sem] neq_func75 neq_func76 neq_nil76 as45_45 as53_45 as63_45 as72_45 as45_63 as53_63 as63_63 as72_63 as45_72 as53_72 as63_72 as72_72 as45_95 as53_95 as63_95 as72_95 eql58_none eql58_some eql66_none eql66_some
set_option linter.unusedSimpArgs false
set_option linter.unusedVariables false

/-- The keys whose types are compared. -/
structure KyIn (w : World) (M : Nat → Prop) (k : Ky) : Prop where
  ok : k.ok
  pl : Plain w k.b
  nm : ¬ M k.b

theorem KyIn.at {w w' : World} {M : Nat → Prop} {k : Ky} (h : KyIn w M k) (g : Grw M w w') : Plain w' k.b := h.pl.grw g h.nm

theorem varcells {w w1 : World} {M : Nat → Prop} (hg : Grw M (w.alloc (.cells #[.nilIface, .nilIface] 69)).drew w1) (hM : ∀ j, M j → j < w.heap.size) :
    w1.cell? ⟨w.heap.size, 0, none⟩ = some .nilIface ∧ w1.cell? ⟨w.heap.size, 1, none⟩ = some .nilIface ∧ w1.frozen? ⟨w.heap.size, 0, none⟩ = false ∧ w1.frozen? ⟨w.heap.size, 1, none⟩ = false := by
  have hb := hg.block w.heap.size (by go_simp) (fun e => Nat.lt_irrefl _ (hM _ e))
  refine ⟨(cell_same hb 0).trans ?_, (cell_same hb 1).trans ?_, (frozen_same hb 0).trans ?_, (frozen_same hb 1).trans ?_⟩ <;> go_simp

def Mid34 (w wc : World) (M : Nat → Prop) (Q' : World → Prop) (a b : Ky) (s4 : Value) : Prop :=
  ∃ vb, s4 = .pointer (some ⟨vb, 0, none⟩) ∧ wc.cell? ⟨vb, 0, none⟩ = some a.val ∧ wc.cell? ⟨vb, 1, none⟩ = some b.val ∧ Grw M w wc ∧ (∀ w', Grw None' wc w' → Q' w')

theorem mid34A {w W w1 : World} {M : Nat → Prop} {Q' : World → Prop} {a1 a2 b1 b2 : Nat} (hW : Grw None' w W) (hg : Grw M W w1) (hQ : ∀ w', Grw (fun j => w.heap.size ≤ j ∧ j < W.heap.size) w1 w' → Q' w') :
    Mid34 w (w1.alloc (.cells #[.iface a1 (.pointer (some ⟨a2, 0, none⟩)), .iface b1 (.pointer (some ⟨b2, 0, none⟩))] 69)) M Q' ⟨a1, a2⟩ ⟨b1, b2⟩ (.pointer (some ⟨w1.heap.size, 0, none⟩)) := by
  refine ⟨_, rfl, by (unfold Ky.val; go_simp), by (unfold Ky.val; go_simp), ((hW.mono (fun _ _ e => e.elim)).trans hg).alloc _, fun w' g => hQ w' ?_⟩
  exact ((Grw.refl _ w1).alloc _).step g (fun _ _ e => e.elim)

theorem mid34B {w w1 : World} {o : Obj} {M : Nat → Prop} {Q' : World → Prop} {a1 a2 b1 b2 : Nat} {x y : Value} (hg : Grw M (w.alloc o).drew w1) (k1 : w1.cell? ⟨w.heap.size, 0, none⟩ = some x) (k2 : w1.cell? ⟨w.heap.size, 1, none⟩ = some y) (hQ : ∀ w', Grw (fun j => w.heap.size ≤ j ∧ j < (w.alloc o).drew.heap.size) w1 w' → Q' w') :
    Mid34 w ((w1.setCell ⟨w.heap.size, 0, none⟩ (.iface a1 (.pointer (some ⟨a2, 0, none⟩)))).setCell ⟨w.heap.size, 1, none⟩ (.iface b1 (.pointer (some ⟨b2, 0, none⟩)))) M Q' ⟨a1, a2⟩ ⟨b1, b2⟩ (.pointer (some ⟨w.heap.size, 0, none⟩)) := by
  have hs : (w.alloc o).drew.heap.size = w.heap.size + 1 := by go_simp
  refine ⟨_, rfl, by (unfold Ky.val; go_simp), by (unfold Ky.val; go_simp), ?_, fun w' g => hQ w' ?_⟩
  · exact (((((Grw.refl M w).alloc _).drew.trans hg).setCell (a := ⟨w.heap.size, 0, none⟩) (fun e => absurd e (Nat.lt_irrefl _)) _).setCell (a := ⟨w.heap.size, 1, none⟩) (fun e => absurd e (Nat.lt_irrefl _)) _)
  · rw [hs]
    exact (((Grw.refl (fun j => w.heap.size ≤ j ∧ j < w.heap.size + 1) w1).setCell (a := ⟨w.heap.size, 0, none⟩) (fun _ => ⟨Nat.le_refl _, Nat.lt_succ_self _⟩) _).setCell (a := ⟨w.heap.size, 1, none⟩) (fun _ => ⟨Nat.le_refl _, Nat.lt_succ_self _⟩) _).step g (fun _ _ e => e.elim)

set_option maxRecDepth 100000 in
set_option maxHeartbeats 4000000 in
theorem field34 (fn q f : Nat) (caps : Array Value) (T V a b : Ky) (w : World) (M : Nat → Prop) (Q : World → World → Prop) (Q' : World → Prop)
    (hen : ∀ args w, (callFunc fn args).run Yba.prog w = .ok (.enter fn args) w)
    (hq : w.cell? ⟨q, 0, none⟩ = some (.func (.func fn) #[] caps)) (hf : FieldAt w f T V) (hMf : ¬ M f) (hM : ∀ j, M j → j < w.heap.size)
    (hT : KyIn w M T) (hV : KyIn w M V) (ha : KyIn w M a) (hb : KyIn w M b)
    (hc : ∀ W, Grw None' w W → Calls Yba.prog fn (#[ann T V] ++ caps) W (fun e w1 => e = .returned (ann a b) ∧ Grw M W w1 ∧ Q W w1))
    (hQ : ∀ W w1 w', Grw None' w W → Q W w1 → Grw (fun j => w.heap.size ≤ j ∧ j < W.heap.size) w1 w' → Q' w') :
    Calls Yba.prog 34 #[fp f, fp q] w (fun e w' => ∃ f', e = .returned (fp f') ∧ Grw M w w' ∧ Q' w' ∧ FieldAt w' f' a b ∧ ((a = T ∧ b = V) → f' = f) ∧ (¬ (a = T ∧ b = V) → w.heap.size ≤ f' ∧ f' < w'.heap.size)) := by
  have lf : f < w.heap.size := hf.pl.lt
  have lq : q < w.heap.size := World.block_lt_of_cell? _ _ hq
  have lf1 : f < w.heap.size + 1 := by omega
  have lq1 : q < w.heap.size + 1 := by omega
  have c3 := hf.c3
  have c4 := hf.c4
  have Hf : Hid (FieldAt w f T V) := hf
  clear hf
  have HM : Hid (∀ j, M j → j < w.heap.size) := hM
  have HMf : Hid (¬ M f) := hMf
  have HQ : Hid _ := hQ
  have Hc : Hid _ := hc
  clear hM hMf hQ hc
  unfold ann at Hc
  unfold Ky.val at c3 c4
  unfold fp
  obtain ⟨a1, a2⟩ := a
  obtain ⟨b1, b2⟩ := b
  obtain ⟨t1, t2⟩ := T
  obtain ⟨v1, v2⟩ := V
  unfold Ky.val at Hc
  simp only at *
  go_enter Yba.func34, Yba.ntmps34
  go_wp2_with fail
  go_cut [4] (fun s4 wc => Mid34 w wc M Q' ⟨a1, a2⟩ ⟨b1, b2⟩ s4)
  case first =>
    go_region_law (go_simp; refine Calls.mono (Hc.out _ ?_) ?_; (repeat (first | exact Grw.refl _ _ | apply Grw.drew | apply Grw.alloc)); rintro e w1 ⟨rfl, hg1, hq1⟩; first | (obtain ⟨k1, k2, k3, k4⟩ := varcells hg1 HM.out) | skip)
    all_goals
      go_wp2_with fail
      go_meet
      first
      | (with_reducible refine mid34B hg1 k1 k2 (fun w' g => HQ.out _ _ _ ?_ hq1 g)
         exact ((Grw.refl _ _).alloc _).drew)
      | (with_reducible refine mid34A ?_ hg1 (fun w' g => HQ.out _ _ _ ?_ hq1 g)
         · exact (Grw.refl _ _).drew
         · exact (Grw.refl _ _).drew)
  case rest =>
    obtain ⟨vb, rfl, hv0, hv1, hgm, hqm⟩ := hcut
    have hfc : FieldAt wc f ⟨t1, t2⟩ ⟨v1, v2⟩ := Hf.out.same (hgm.block f lf HMf.out)
    have e1 : (Op.equalIn 9999 49 (Ky.val ⟨a1, a2⟩) (Ky.val ⟨t1, t2⟩)).run Yba.prog wc.drew = .ok (decide (a1 = t1 ∧ a2 = t2)) wc.drew := equalIn_ky wc.drew 9997 ⟨a1, a2⟩ ⟨t1, t2⟩ ha.ok (ha.at hgm.drew) (hT.at hgm.drew)
    have e3 : (Op.equalIn 9999 49 (Ky.val ⟨b1, b2⟩) (Ky.val ⟨v1, v2⟩)).run Yba.prog wc.drew = .ok (decide (b1 = v1 ∧ b2 = v2)) wc.drew := equalIn_ky wc.drew 9997 ⟨b1, b2⟩ ⟨v1, v2⟩ hb.ok (hb.at hgm.drew) (hV.at hgm.drew)
    have e2 := fun x y => guard_ann wc.drew x y ⟨a1, a2⟩ ⟨b1, b2⟩ ⟨t1, t2⟩ ⟨v1, v2⟩
    have d3 := hfc.c3
    have d4 := hfc.c4
    have Hgm : Hid _ := hgm
    have Hqm : Hid _ := hqm
    have lfc : f < wc.heap.size := hfc.pl.lt
    have lwc : Hid (w.heap.size ≤ wc.heap.size) := hgm.size
    have Hfc : Hid _ := hfc
    clear hgm hqm hfc hT hV ha hb c3 c4 hq lq lq1 lf1 hen
    unfold Ky.val at hv0 hv1 d3 d4 e1 e2 e3
    simp only at hv0 hv1 d3 d4 e1 e2 e3
    by_cases hd1 : a1 = t1 ∧ a2 = t2
    · rw [decide_eq_true hd1] at e1
      by_cases hd2 : b1 = v1 ∧ b2 = v2
      · rw [decide_eq_true hd2] at e3
        have Hd : Hid ((⟨a1, a2⟩ : Ky) = ⟨t1, t2⟩ ∧ (⟨b1, b2⟩ : Ky) = ⟨v1, v2⟩) := ⟨by rw [hd1.1, hd1.2], by rw [hd2.1, hd2.2]⟩
        clear hd1 hd2
        go_wp2_with fail
        go_region
        go_wp2_with fail
        go_ret
        refine ⟨f, rfl, Hgm.out.drew, Hqm.out _ (Grw.refl _ wc).drew, ?_, fun _ => rfl, fun h => absurd Hd.out h⟩
        rw [Hd.out.1, Hd.out.2]
        exact Hfc.out.same rfl
      · rw [decide_eq_false hd2] at e3
        have Hd : Hid (¬ ((⟨a1, a2⟩ : Ky) = ⟨t1, t2⟩ ∧ (⟨b1, b2⟩ : Ky) = ⟨v1, v2⟩)) := fun h => hd2 (by injection h.2 with h3 h4; exact ⟨h3, h4⟩)
        clear hd1 hd2
        go_wp2_with fail
        go_region
        go_wp2_with fail
        refine Calls.mono (withType_any wc.drew f ⟨t1, t2⟩ ⟨v1, v2⟩ ⟨a1, a2⟩ ⟨b1, b2⟩ (Hfc.out.same rfl)) ?_
        rintro e w5 ⟨rfl, g5, s5, f5⟩
        have H5 : Hid _ := And.intro g5 (And.intro s5 f5)
        clear g5 s5 f5
        go_wp2_with fail
        go_ret
        obtain ⟨g5, s5, f5⟩ := H5.out
        refine ⟨_, rfl, Hgm.out.drew.step g5 (fun _ _ e => e.elim), Hqm.out _ ((Grw.refl _ wc).drew.trans g5), f5, fun h => absurd h Hd.out, fun _ => ?_⟩
        have := lwc.out
        have hs : wc.drew.heap.size = wc.heap.size := rfl
        omega
    · rw [decide_eq_false hd1] at e1
      have Hd : Hid (¬ ((⟨a1, a2⟩ : Ky) = ⟨t1, t2⟩ ∧ (⟨b1, b2⟩ : Ky) = ⟨v1, v2⟩)) := fun h => hd1 (by injection h.1 with h3 h4; exact ⟨h3, h4⟩)
      clear hd1
      go_wp2_with fail
      go_region
      go_wp2_with fail
      refine Calls.mono (withType_any wc.drew f ⟨t1, t2⟩ ⟨v1, v2⟩ ⟨a1, a2⟩ ⟨b1, b2⟩ (Hfc.out.same rfl)) ?_
      rintro e w5 ⟨rfl, g5, s5, f5⟩
      have H5 : Hid _ := And.intro g5 (And.intro s5 f5)
      clear g5 s5 f5
      go_wp2_with fail
      go_ret
      obtain ⟨g5, s5, f5⟩ := H5.out
      refine ⟨_, rfl, Hgm.out.drew.step g5 (fun _ _ e => e.elim), Hqm.out _ ((Grw.refl _ wc).drew.trans g5), f5, fun h => absurd h Hd.out, fun _ => ?_⟩
      have := lwc.out
      have hs : wc.drew.heap.size = wc.heap.size := rfl
      omega
end Go.Proofs.Ybulkbebo
