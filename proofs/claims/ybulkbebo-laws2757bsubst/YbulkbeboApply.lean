/- Apply. -/
import Derived.Test.YbulkbeboNode
import Derived.BigQuiet
import Derived.Deep.RegionHeld3
import Derived.Deep.RegionWith
namespace Go.Proofs.Ybulkbebo
open Go.RowKit
open Classical
attribute [local go_sem] neq_func75 neq_func76 neq_nil76 as45_45 as53_45 as63_45 as72_45 as45_63 as53_63 as63_63 as72_63 as45_72 as53_72 as63_72 as72_72 as45_95 as53_95 as63_95 as72_95 eql58_none eql58_some eql66_none eql66_some
set_option linter.unusedSimpArgs false
set_option linter.unusedVariables false

theorem mkMap93 (w : World) : (Instr.makeMap 93 none).run Yba.prog w = .ok (.map (some w.heap.size)) (w.alloc (.map #[] 0)) := rfl
attribute [local go_sem] mkMap93
theorem store_map (w : World) (a : Addr) (m : Mode) (r : Option Nat) : (store a (.map r) m).run Yba.prog w = stored Yba.prog w a (.map r) m := run_store Yba.prog w a _ m rfl

attribute [local go_sem] store_map
theorem grw_dd {w : World} {q : Nat} : Grw None' w (w.drewN q) := ⟨rfl, rfl, rfl, Nat.le_refl _, fun _ _ _ => rfl⟩

theorem StkAt.top {w : World} {sv base gs n cap : Nat} {l : List Fr} {f : Fr} (h : StkAt w sv base (.slice (some ⟨gs, 0, none⟩) n cap) (l ++ [f])) :
    w.cell? ⟨gs, l.length * 3, none⟩ = some f.k.val ∧ w.cell? ⟨gs, l.length * 3 + 1, none⟩ = some f.pv ∧ w.cell? ⟨gs, l.length * 3 + 2, none⟩ = some (.int .i64 (f.nx : Int)) ∧ w.frozen? ⟨gs, l.length * 3 + 2, none⟩ = false := by
  rcases h.own.2 with ⟨h1, _⟩ | ⟨g', cap', cur, hv, hb, hg, hc, hm, hs, ht⟩
  · cases h1
  · injection hv with h1 h2 h3
    injection h1 with h1
    injection h1 with h1
    subst h1 h3
    have hl : (l ++ [f]).length = l.length + 1 := by simp
    have hfl : (fcs l).length = l.length * 3 := fcs_length l
    have hcell : ∀ o, o < 3 → w.cell? ⟨gs, l.length * 3 + o, none⟩ = f.cells[o]? := fun o ho => by
      rw [cell_of_row w gs _ cur 109 (0, 0) hg]
      have e : (cur.toList.take ((l ++ [f]).length * 3))[l.length * 3 + o]? = (fcs (l ++ [f]))[l.length * 3 + o]? := by rw [ht]
      rw [List.getElem?_take, if_pos (by rw [hl]; omega), fcs_append, List.getElem?_append_right (by omega), hfl, show l.length * 3 + o - l.length * 3 = o from by omega] at e
      rw [← Array.getElem?_toList, e]
      simp [fcs]
    refine ⟨?_, ?_, ?_, ?_⟩
    · have := hcell 0 (by omega); simpa [Fr.cells] using this
    · have := hcell 1 (by omega); simpa [Fr.cells] using this
    · have := hcell 2 (by omega); simpa [Fr.cells] using this
    · simp [World.frozen?, hg]

def ApR (E : Env) (L : Lay) (Rc : Nat → Prop) (w0 : World) (root : Nat) (g : Nat) (w : World) : Prop :=
  ∃ D F fs v, g = phi E D fs ∧ StInv E Rc D fs ∧ Mem E L w0 w (pvalOf E) D F fs v ∧ (isD D (E.tv root) ∨ onS fs root)

def ApplyPost (E : Env) (Rc : Nat → Prop) (w0 : World) (root : Nat) (e : Ending) (w : World) : Prop :=
  ∃ D F, e = .returned (rr D (E.tv root)).val ∧ isD D (E.tv root) ∧ Grw (fun j => j = E.cr ∨ j = E.ac) w0 w ∧ DagIn E F w ∧ Good E F w D ∧ CntAt w E.ac (cntD E D : Nat) ∧ CallsAt w E.cr (clD E D) ∧ (∀ j, F j → j < w.heap.size) ∧ ¬ F E.ac ∧ ¬ F E.cr ∧ ∀ p, p ∈ D → ∃ i, i < E.n ∧ Rc i ∧ p.1 = E.tv i

theorem cntD_nil (E : Env) : cntD E [] = 0 := by
  have h : cntD E [] = sumTo (fun _ => 0) E.n := (cntD_eq _ _).trans (sumTo_congr (fun i _ => if_neg (fun q => not_isD rfl q.2)))
  have := sumTo_bound (f := fun _ => 0) (c := 0) (fun _ => Nat.le_refl _) E.n
  omega

theorem clD_nil (E : Env) (q : Nat) : clD E [] q = 0 := (clD_eq _ _ _).trans (if_neg (fun ⟨_, i, _, _, _, h⟩ => not_isD rfl h))

/-- The world at the first push. -/
def apW (w : World) (pval : Value) (ac : Nat) : World :=
  (((w.alloc (.cells #[pval, .func (.func 10) #[] #[fp ac], .nilFunc] 79)).alloc (.map #[] 0)).alloc (.cells #[.map (some (w.heap.size + 1))] 93)).alloc (.cells #[.slice none 0 0] 94)

def apL (w : World) : Lay := ⟨w.heap.size + 1 + 1 + 1, w.heap.size + 1, w.heap.size + 1 + 1, w.heap.size⟩

set_option maxRecDepth 100000 in
set_option maxHeartbeats 8000000 in
theorem apply12 (E : Env) (ok : E.OK) (Rc : Nat → Prop) (hRk : ∀ i j, i < E.n → Rc i → j < E.np i → Rc (E.kd i j)) (w : World) (root : Nat) (hroot : root < E.n) (hRr : Rc root) (F0 : Nat → Prop) (hF0 : ∀ j, F0 j → j < w.heap.size) (hFa : ¬ F0 E.ac) (hFc : ¬ F0 E.cr) (hac : E.ac ≠ E.cr) (hB : E.B ≤ w.heap.size)
    (dag : DagIn E F0 w) (hcnt : CntAt w E.ac 0) (hcls : CallsAt w E.cr (fun _ => 0)) :
    Calls Yba.prog 12 #[rwv (pvalOf E) E.ac, (E.tv root).val] w (ApplyPost E Rc w root) := by
  have lo : LayOK E (apL w) := by
    have := hcnt.lt; have := hcls.lt
    refine ⟨?_, ?_, ?_, ?_, ?_, ?_, ?_, hac, ?_⟩ <;> simp only [apL] <;> omega
  have gA : Grw None' w (apW w (pvalOf E) E.ac) := ((((Grw.refl _ w).alloc _).alloc _).alloc _).alloc _
  have sA : (apW w (pvalOf E) E.ac).heap.size = w.heap.size + 4 := by unfold apW; simp only [World.alloc, Array.size_push]
  have kp : Kp F0 w (apW w (pvalOf E) E.ac) := gA.kp (fun j hj => ⟨hF0 j hj, fun e => e⟩)
  have toF : ∀ j, F0 j → (F0 j ∨ j = w.heap.size + 1 + 1 ∨ j = w.heap.size) := fun j hj => .inl hj
  have m0 : Mem E (apL w) w (apW w (pvalOf E) E.ac) (pvalOf E) [] (fun j => F0 j ∨ j = w.heap.size + 1 + 1 ∨ j = w.heap.size) [] (.slice none 0 0) := by
    have l1 := hcnt.lt; have l2 := hcls.lt
    refine ⟨⟨(by unfold apW; simp only [apL]; go_simp), (by unfold apW; simp only [apL]; go_simp), by omega, by rw [sA]; simp only [apL]; omega, ⟨rfl, .inl ⟨rfl, rfl⟩⟩⟩, fun j hj => (by cases hj), fun j hj => ?_, ?_, ?_, ?_, ?_, .inr (.inl rfl), .inr (.inr rfl), (by unfold apW; simp only [apL]; go_simp), (by unfold apW; simp only [apL]; go_simp), (by unfold apW; simp only [apL]; go_simp), (by unfold apW; simp only [apL]; go_simp), ?_, ?_, ?_, dag.kp kp toF, fun f hf => (by cases hf), fun i hi k hk => (by cases hk), gA.mono (fun _ _ e => e.elim), ?_, fun p hp => (by cases hp)⟩
    · rw [sA]
      rcases hj with hj | hj | hj
      · have := hF0 j hj; omega
      · omega
      · omega
    · simp only [apL]
      rintro (h | h | h)
      · have := hF0 _ h; omega
      · omega
      · omega
    · simp only [apL]
      rintro (h | h | h)
      · have := hF0 _ h; omega
      · omega
      · omega
    · rintro (h | h | h)
      · exact hFa h
      · omega
      · omega
    · rintro (h | h | h)
      · exact hFc h
      · omega
      · omega
    · refine ⟨⟨#[], 0, ?_, rfl⟩, fun p hp => (by cases hp)⟩
      unfold apW
      simp only [apL]
      have sz : ∀ (W : World) (o : Obj), (W.alloc o).heap.size = W.heap.size + 1 := fun W o => by simp only [World.alloc, Array.size_push]
      rw [Go.Deep.blk_alloc_lt _ _ _ (by rw [sz, sz, sz]; omega), Go.Deep.blk_alloc_lt _ _ _ (by rw [sz, sz]; omega)]
      have hnew := heap_alloc_new (w.alloc (.cells #[pvalOf E, .func (.func 10) #[] #[fp E.ac], .nilFunc] 79)) (.map #[] 0)
      rw [sz] at hnew
      exact hnew
    · rw [cntD_nil]; exact hcnt.grw gA (fun e => e)
    · exact (hcls.grw gA (fun e => e)).congr (fun i _ => (clD_nil E i).symm)
    · simp only [apL]; omega
  have pu : Calls Yba.prog 15 #[(E.tv root).val, fp (apL w).dv, fp (apL w).sv] (apW w (pvalOf E) E.ac) (fun e w' => e = .returned (.tuple #[]) ∧ ApR E (apL w) Rc w root (phi E [] [⟨root, .nilFunc, 0⟩]) w') := by
    refine Calls.mono (push15 _ (E.tv root) _ _ _ _ _ (E.np root) (fun j => E.tv (E.kd root j)) (ok.ok root hroot) m0.stk (by simp [frs]) (fun W g _ => parts_node ok (m0.dag.kp (g.kp (fun j hj => ⟨m0.flt j hj, fun e => e⟩)) (fun _ e => e)) root hroot)) ?_
    rintro e w' ⟨rfl, hp⟩
    obtain ⟨F', v', pv', hm⟩ := m0.push lo root hp
    refine ⟨rfl, [], F', [⟨root, pv', 0⟩], v', ?_, ⟨fun f hf => ?_, by simp, fun p hp => (by cases hp)⟩, hm, .inr ⟨⟨root, pv', 0⟩, by simp, rfl⟩⟩
    · exact phi_one E [] root 0 _ _
    · simp only [List.mem_singleton] at hf
      subst hf
      exact ⟨hroot, hRr, rfl, Nat.zero_le _, fun j hj => by simp only at hj; omega⟩
  have Pu : Hid _ := pu
  clear pu m0 toF kp dag hcnt hcls gA sA hF0 hFa hFc hB hac
  have Ok : Hid _ := ok
  have HRk : Hid _ := hRk
  have Lo : Hid (LayOK E (apL w)) := lo
  clear ok hRk lo
  unfold apW at Pu
  simp only [apL] at Pu
  unfold rwv
  unfold fp
  unfold fp at Pu
  go_enter Yba.func12, Yba.ntmps12
  go_wp2_with fail
  refine Calls.mono Pu.out ?_
  rintro e w1 ⟨rfl, hap⟩
  have Hap : Hid _ := hap
  clear hap Pu
  go_wp2_with fail
  go_loopg [] (phi E [] [⟨root, .nilFunc, 0⟩]) (fun g wr => ApR E (apL w) Rc w root g wr)
  case atStart => exact Hap.out
  case round =>
    clear Hap
    obtain ⟨D, F, fs, v, hg, hst, hm, hro⟩ := hrel
    have Hg : Hid _ := hg
    have Hst : Hid (StInv E Rc D fs) := hst
    have Hm : Hid (Mem E (apL w) w wr (pvalOf E) D F fs v) := hm
    have Hro : Hid _ := hro
    clear hg hst hm hro
    have c0 := Hm.out.stk.c0
    have cf := Hm.out.stk.fr
    have cd := Hm.out.cdv
    simp only [apL] at c0 cf cd
    rcases List.eq_nil_or_concat fs with rfl | ⟨fs0, f, rfl⟩
    · obtain ⟨ao, cap, rfl⟩ : ∃ ao cap, v = .slice ao 0 cap := by
        rcases Hm.out.stk.own.2 with ⟨h1, _⟩ | ⟨g, cap, _, h1, _⟩
        · exact ⟨_, _, h1⟩
        · exact ⟨_, _, h1⟩
      have hd : isD D (E.tv root) := by
        rcases Hro.out with h | ⟨f, h, _⟩
        · exact h
        · cases h
      have hni := Hm.out.dag.node root hroot
      have hl := lookup_v wr (w.heap.size + 1) (vals D) Hm.out.map (E.tv root) (Ok.out.ok root hroot) hni.2
      rw [lookD_vals, hd.img] at hl
      simp only [Option.map_some, Option.getD_some] at hl
      go_wp2_with fail
      go_ret
      exact ⟨D, F, rfl, hd, Hm.out.g0, Hm.out.dag, Hm.out.good, Hm.out.cnt, Hm.out.cls, Hm.out.flt, Hm.out.fac, Hm.out.fcr, Hst.out.ky⟩
    · rw [List.concat_eq_append] at *
      obtain ⟨i, pv, nx⟩ := f
      obtain ⟨gs, cap, rfl, hgs, hgl⟩ := Hm.out.stk.own.form (by rw [frs_length]; simp)
      have hlen : (frs E (fs0 ++ [⟨i, pv, nx⟩])).length = fs0.length + 1 := by rw [frs_length]; simp
      have Hm2 : Hid (Mem E (apL w) w wr (pvalOf E) D F (fs0 ++ [⟨i, pv, nx⟩]) (.slice (some ⟨gs, 0, none⟩) (fs0.length + 1) cap)) := by rw [hlen] at Hm; exact Hm
      clear Hm
      rw [hlen] at c0
      clear hlen
      have ht := Hm2.out.stk
      rw [frs_snoc] at ht
      obtain ⟨t0, t1, t2, t3⟩ := ht.top
      clear ht
      simp only [frs_length] at t0 t1 t2 t3
      obtain ⟨hi, hiR, hin, hnx, _⟩ := Hst.out.fr ⟨i, pv, nx⟩ (by simp)
      simp only at hi hiR hin hnx
      have hL : fs0.length ≤ 256 := by
        have := Hst.out.len
        have := Ok.out.nb
        have h3 : (fs0 ++ [(⟨i, pv, nx⟩ : Gf)]).length = fs0.length + 1 := by simp
        omega
      have hnp4 := Ok.out.np4 hi
      have hpts := Hm2.out.pts ⟨i, pv, nx⟩ (by simp)
      simp only at hpts
      generalize hLe : fs0.length = Ln at *
      have HL : Hid _ := hLe
      clear hLe
      by_cases hlt : nx < E.np i
      · obtain ⟨gp, capp, rfl, hpc, hpF, hpe⟩ : ∃ gp capp, pv = .slice (some ⟨gp, 0, none⟩) (E.np i) capp ∧ E.np i ≤ capp ∧ F gp ∧ ∀ j, j < E.np i → wr.cell? ⟨gp, j, none⟩ = some (E.tv (E.kd i j)).val := by
          rcases hpts with ⟨_, h⟩ | ⟨gp, capp, h⟩
          · omega
          · exact ⟨gp, capp, h⟩
        have pc := hpe nx hlt
        clear hpe hpts
        have Hlt : Hid _ := hlt
        have hlt2 : (nx : Int) < (E.np i : Int) := by omega
        have hc := Ok.out.kid hi hlt
        have hnb : nx ≤ 4 := by omega
        have HMn : Hid (∀ q, Mem E (apL w) w ((wr.drewN q).setCell ⟨gs, Ln * 3 + 2, none⟩ (.int .i64 ((nx : Int) + 1))) (pvalOf E) D F (fs0 ++ [⟨i, .slice (some ⟨gp, 0, none⟩) (E.np i) capp, nx + 1⟩]) (.slice (some ⟨gs, 0, none⟩) (Ln + 1) cap)) := fun q => by
          have h1 := Hm2.out.same Lo.out ((Grw.refl None' wr).aft ⟨[], q⟩)
          rw [← HL.out] at h1 ⊢
          exact Mem.next Lo.out h1
        have hlk := fun q => lookup_ok _ (w.heap.size + 1) (vals D) (HMn.out q).map (E.tv (E.kd i nx)) (Ok.out.ok _ hc) ((HMn.out q).dag.node _ hc).2
        rcases isD_or D (E.tv (E.kd i nx)) with hd | hd
        · rw [lookD_vals, hd.img] at hlk
          simp only [Option.map_some, Option.getD_some, Option.isSome_some] at hlk
          have HS : Hid (StInv E Rc D (fs0 ++ [⟨i, .slice (some ⟨gp, 0, none⟩) (E.np i) capp, nx + 1⟩])) := Hst.out.skip hlt hd
          have HP : Hid _ := phi_skip (E := E) (D := D) (fs := fs0) (pv := .slice (some ⟨gp, 0, none⟩) (E.np i) capp) hlt
          have HO : Hid (isD D (E.tv root) ∨ onS (fs0 ++ [⟨i, .slice (some ⟨gp, 0, none⟩) (E.np i) capp, nx + 1⟩]) root) := orMap Hro.out id (fun h => by
            rcases onS_snoc.1 h with h | h
            · exact onS_snoc.2 (.inl h)
            · exact onS_snoc.2 (.inr h))
          have Hd : Hid _ := hd
          clear hd hiR hin hnx hnp4 hc hlt hi
          generalize hN : E.np i = N at *
          have HN : Hid _ := hN
          clear hN
          go_wp2_with fail
          go_quiet (fail)
          go_wp2_with fail
          go_quiet (fail)
          go_wp2_with fail
          go_roundg (phi E D (fs0 ++ [⟨i, .slice (some ⟨gp, 0, none⟩) N capp, nx + 1⟩]))
          case measure => rw [Hg.out]; have := HP.out; omega
          case rel => exact ⟨D, F, _, _, rfl, HS.out, HMn.out _, HO.out⟩
        · rw [lookD_vals, hd] at hlk
          simp only [Option.map_none, Option.getD_none, Option.isSome_none] at hlk
          have HS : Hid (∀ pv', StInv E Rc D ((fs0 ++ [⟨i, .slice (some ⟨gp, 0, none⟩) (E.np i) capp, nx + 1⟩]) ++ [⟨E.kd i nx, pv', 0⟩])) := fun pv' => Hst.out.push Ok.out hlt hd (HRk.out i nx hi hiR hlt) pv'
          have HP : Hid _ := fun pv' => phi_push Ok.out Hst.out hlt hd pv'
          have HO : Hid (∀ pv', isD D (E.tv root) ∨ onS ((fs0 ++ [⟨i, .slice (some ⟨gp, 0, none⟩) (E.np i) capp, nx + 1⟩]) ++ [⟨E.kd i nx, pv', 0⟩]) root) := fun pv' => orMap Hro.out id (fun h => by
            rcases onS_snoc.1 h with h | h
            · exact onS_snoc.2 (.inl (onS_snoc.2 (.inl h)))
            · exact onS_snoc.2 (.inl (onS_snoc.2 (.inr h))))
          have HPu : Hid (∀ q, Calls Yba.prog 15 #[(E.tv (E.kd i nx)).val, .pointer (some ⟨w.heap.size + 1 + 1, 0, none⟩), .pointer (some ⟨w.heap.size + 1 + 1 + 1, 0, none⟩)] ((wr.drewN q).setCell ⟨gs, Ln * 3 + 2, none⟩ (.int .i64 ((nx : Int) + 1))) (fun e w' => e = .returned (.tuple #[]) ∧ ∃ g2, g2 < gk ∧ ApR E (apL w) Rc w root g2 w')) := fun q => by
            have hmq := HMn.out q
            refine Calls.mono (push15 _ (E.tv (E.kd i nx)) (apL w).dv (apL w).sv _ _ _ (E.np (E.kd i nx)) (fun j => E.tv (E.kd (E.kd i nx) j)) (Ok.out.ok _ hc) hmq.stk (by rw [frs_length]; simp; rw [HL.out]; omega) (fun W g _ => parts_node Ok.out (hmq.dag.kp (g.kp (fun j hj => ⟨hmq.flt j hj, fun e => e⟩)) (fun _ e => e)) _ hc)) ?_
            rintro e w' ⟨rfl, hp⟩
            obtain ⟨F', v', pv', hm'⟩ := hmq.push Lo.out _ hp
            exact ⟨rfl, phi E D ((fs0 ++ [⟨i, .slice (some ⟨gp, 0, none⟩) (E.np i) capp, nx + 1⟩]) ++ [⟨E.kd i nx, pv', 0⟩]), by rw [Hg.out]; exact HP.out pv', D, F', _, v', rfl, HS.out pv', hm', HO.out pv'⟩
          have Hd : Hid _ := hd
          clear hd hiR hin hnx hnp4 hc hlt hi HP HO HS
          generalize hN : E.np i = N at *
          have HN : Hid _ := hN
          clear hN
          go_wp2_with fail
          go_quiet (fail)
          go_wp2_with fail
          go_quiet (fail)
          go_wp2_with fail
          refine Calls.mono (HPu.out _) ?_
          rintro e w2 ⟨rfl, g2, hg2, hap2⟩
          have Hap2 : Hid _ := hap2
          have Hg2 : Hid _ := hg2
          clear hap2 hg2
          go_wp2_with fail
          go_roundg g2
          case measure => exact Hg2.out
          case rel => exact Hap2.out
      · obtain ⟨ao, capp, rfl⟩ : ∃ ao capp, pv = .slice ao (E.np i) capp := by
          rcases hpts with ⟨h, e⟩ | ⟨gp, capp, h, _⟩
          · exact ⟨none, 0, by rw [h, e]⟩
          · exact ⟨_, _, h⟩
        have hnn : nx = E.np i := by omega
        have hdn : ∀ j, j < E.np i → isD D (E.tv (E.kd i j)) := fun j hj => Hst.out.topDone Ok.out j (by simp only; omega)
        have HRb : Hid (∀ W, Grw None' wr W → Calls Yba.prog 18 #[.agg #[pvalOf E, .func (.func 10) #[] #[.pointer (some ⟨E.ac, 0, none⟩)], .nilFunc], (E.tv i).val, .map (some (w.heap.size + 1))] W (fun e w1 => ∃ ks w2 F', e = .returned (Ky.val ks) ∧ (w1.cell? ⟨w.heap.size + 1 + 1, 0, none⟩ = some (.map (some (w.heap.size + 1))) ∧ w1.cell? ⟨gs, Ln * 3, none⟩ = some (E.tv i).val ∧ w1.cell? ⟨w.heap.size, 0, none⟩ = some (pvalOf E) ∧ w1.cell? ⟨w.heap.size, 1, none⟩ = some (.func (.func 10) #[] #[.pointer (some ⟨E.ac, 0, none⟩)]) ∧ w1.cell? ⟨w.heap.size, 2, none⟩ = some .nilFunc) ∧ (w2.cell? ⟨w.heap.size + 1 + 1, 0, none⟩ = some (.map (some (w.heap.size + 1))) ∧ w2.cell? ⟨gs, Ln * 3, none⟩ = some (E.tv i).val ∧ w2.cell? ⟨w.heap.size, 0, none⟩ = some (pvalOf E) ∧ w2.cell? ⟨w.heap.size, 1, none⟩ = some (.func (.func 10) #[] #[.pointer (some ⟨E.ac, 0, none⟩)]) ∧ w2.cell? ⟨w.heap.size, 2, none⟩ = some .nilFunc) ∧ (Instr.mapUpdate 93 (.map (some (w.heap.size + 1))) (E.tv i).val ks.val).run Yba.prog w1 = .ok () w2 ∧ Mem E (apL w) w w2 (pvalOf E) (D ++ [(E.tv i, ks)]) F' (fs0 ++ [⟨i, .slice ao (E.np i) capp, nx⟩]) (.slice (some ⟨gs, 0, none⟩) (Ln + 1) cap))) := fun W g => by
          have hmW := Hm2.out.same Lo.out g
          have hBW : E.B ≤ W.heap.size := by
            have := Lo.out.oB
            have := hmW.stk.le
            omega
          refine Calls.mono (rebuild_node Ok.out Lo.out hBW hmW i hi hin hdn) ?_
          rintro e w1 ⟨v1, rfl, ks, rfl, g1, r1, k1, k2⟩
          have nF : ∀ j, F j → ¬ (j = E.cr ∨ j = E.ac) := fun j hj e => by
            rcases e with e | e
            · exact hmW.fcr (e ▸ hj)
            · exact hmW.fac (e ▸ hj)
          have hni := hmW.dag.node i hi
          have hmp : MapAt w1 (w.heap.size + 1) (vals D) := hmW.map.grw g1 (fun e => by
            rcases e with e | e
            · exact Lo.out.rc e
            · exact Lo.out.ra e) (fun p hp => by
            simp only [vals, List.mem_map] at hp
            obtain ⟨p', hp', rfl⟩ := hp
            obtain ⟨q, hq, e⟩ := hmW.kyi p' hp'
            simp only
            rw [e]
            exact nF _ (hmW.dag.node q hq).1)
          obtain ⟨es, c, hrun, hh⟩ := update_new w1 (w.heap.size + 1) (vals D) hmp (E.tv i) (Ok.out.ok i hi) (hni.2.grw g1 (nF _ hni.1)) ks.val (by rw [lookD_vals, hin]; rfl)
          have hm2 := hmW.rebuilt Ok.out Lo.out i hi ks hin hdn g1 r1 k1 k2 es c hh
          have hgs2 : gs ≠ E.cr ∧ gs ≠ E.ac := by
            have := Lo.out.a1; have := Lo.out.c1
            omega
          have k3 := hm2.stk
          rw [frs_snoc] at k3
          have k4 := k3.top.1
          rw [frs_length, HL.out] at k4
          refine ⟨ks, _, _, rfl, ⟨?_, ?_, ?_, ?_, ?_⟩, ⟨hm2.cdv, k4, hm2.cr0, hm2.cr1, hm2.cr2⟩, hrun, hm2⟩
          · exact g1.cellOf (g.cellOf cd (fun e => e)) (nF _ hmW.fdv)
          · exact g1.cellOf (g.cellOf t0 (fun e => e)) (fun e => by rcases e with e | e; exact hgs2.1 e; exact hgs2.2 e)
          · exact g1.cellOf hmW.cr0 (nF _ hmW.frb)
          · exact g1.cellOf hmW.cr1 (nF _ hmW.frb)
          · exact g1.cellOf hmW.cr2 (nF _ hmW.frb)
        have HS : Hid (∀ ks, StInv E Rc (D ++ [(E.tv i, ks)]) fs0) := fun ks => Hst.out.pop Ok.out ks
        have HP : Hid (∀ ks, phi E (D ++ [(E.tv i, ks)]) fs0 < gk) := fun ks => by rw [Hg.out]; exact phi_pop ks
        have HO : Hid (∀ ks, isD (D ++ [(E.tv i, ks)]) (E.tv root) ∨ onS fs0 root) := fun ks => by
          rcases Hro.out with h | h
          · exact .inl (isD_snoc_iff.2 (.inl h))
          · rcases onS_snoc.1 h with h | h
            · exact .inr h
            · left
              simp only at h
              rw [← h]
              exact isD_snoc_iff.2 (.inr rfl)
        have b0 := Hm2.out.cr0
        have b1 := Hm2.out.cr1
        have b2 := Hm2.out.cr2
        simp only [apL, fp] at b0 b1 b2
        clear hin hnx hlt hpts hdn hi hiR
        have Hnn : Hid _ := hnn
        clear hnn
        generalize hN : E.np i = N at *
        have HN : Hid _ := hN
        clear hN
        have hcap : Ln ≤ cap := by
          rcases Hm2.out.stk.own.2 with ⟨h1, _⟩ | ⟨_, _, _, h1, _, _, h2, _⟩
          · cases h1
          · injection h1 with _ h3 h4
            omega
        have hge : ¬ ((nx : Int) < (N : Int)) := by have := Hnn.out; omega
        go_wp2_with fail
        go_quiet (fail)
        go_wp2_with fail
        go_cut [] (fun wx => ∃ ks F', Mem E (apL w) w wx (pvalOf E) (D ++ [(E.tv i, ks)]) F' (fs0 ++ [⟨i, .slice ao N capp, nx⟩]) (.slice (some ⟨gs, 0, none⟩) (Ln + 1) cap))
        case first =>
          go_region_held3 (fun w' => w'.cell? ⟨w.heap.size + 1 + 1, 0, none⟩ = some (.map (some (w.heap.size + 1))) ∧ w'.cell? ⟨gs, Ln * 3, none⟩ = some (E.tv i).val ∧ w'.cell? ⟨w.heap.size, 0, none⟩ = some (pvalOf E) ∧ w'.cell? ⟨w.heap.size, 1, none⟩ = some (.func (.func 10) #[] #[.pointer (some ⟨E.ac, 0, none⟩)]) ∧ w'.cell? ⟨w.heap.size, 2, none⟩ = some .nilFunc) (first | exact ⟨e0, e1, e2, e3, e4⟩ | exact ⟨d0, d1, d2, d3, d4⟩ | exact ⟨cd, t0, b0, b1, b2⟩) (first | (go_at_call 18; refine Calls.mono (HRb.out _ grw_dd) ?_; rintro e w1 ⟨ks, w2, F', rfl, ⟨d0, d1, d2, d3, d4⟩, ⟨e0, e1, e2, e3, e4⟩, d5, hm2⟩; have HM2 : Hid _ := hm2; clear hm2))
          all_goals
            go_wp2_with fail
            go_meet
            exact ⟨ks, F', HM2.out⟩
        case rest =>
          obtain ⟨ks, F', hm2⟩ := hcut
          have c4 := hm2.stk.c0
          have c5 := hm2.stk.fr
          simp only [apL] at c4 c5
          have hp : Hid (Mem E (apL w) w (wc.setCell ⟨w.heap.size + 1 + 1 + 1, 0, none⟩ (.slice (some ⟨gs, 0, none⟩) Ln cap)) (pvalOf E) (D ++ [(E.tv i, ks)]) F' fs0 (.slice (some ⟨gs, 0, none⟩) Ln cap)) := by
            rw [← HL.out] at hm2 ⊢
            exact Mem.pop Lo.out hm2
          clear hm2 c0 cf
          go_wp2_with fail
          go_roundg (phi E (D ++ [(E.tv i, ks)]) fs0)
          case measure => exact HP.out ks
          case rel => exact ⟨_, F', fs0, _, rfl, HS.out ks, hp.out, HO.out ks⟩
end Go.Proofs.Ybulkbebo
