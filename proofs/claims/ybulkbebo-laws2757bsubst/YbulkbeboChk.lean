/- zzs2757bcheck. -/
import Derived.Test.YbulkbeboApply
namespace Go.Proofs.Ybulkbebo
open Go.RowKit
open Classical
attribute [local go_sem] neq_func75 neq_func76 neq_nil76 as45_45 as53_45 as63_45 as72_45 as45_63 as53_63 as63_63 as72_63 as45_72 as53_72 as63_72 as72_72 as45_95 as53_95 as63_95 as72_95 eql58_none eql58_some eql66_none eql66_some mkMap93 store_map
set_option linter.unusedSimpArgs false
set_option linter.unusedVariables false

/-- The blocks of the check's state. -/
structure Ck where
  sb : Nat
  tb : Nat
  kb : Nat
  pb : Nat
  cb : Nat
  hb : Nat
  mb : Nat
  nb : Nat

structure StIn (E : Env) (C : Ck) (F : Nat → Prop) (w : World) : Prop where
  f : F C.sb ∧ F C.tb ∧ F C.kb ∧ F C.pb ∧ F C.cb ∧ F C.hb
  s0 : w.cell? ⟨C.sb, 0, none⟩ = some (.slice (some ⟨C.tb, 0, none⟩) E.n E.n)
  s1 : w.cell? ⟨C.sb, 1, none⟩ = some (.slice (some ⟨C.kb, 0, none⟩) E.n E.n)
  s2 : w.cell? ⟨C.sb, 2, none⟩ = some (.slice (some ⟨C.pb, 0, none⟩) E.n E.n)
  s3 : w.cell? ⟨C.sb, 3, none⟩ = some (.slice (some ⟨C.cb, 0, none⟩) E.n E.n)
  s4 : w.cell? ⟨C.sb, 4, none⟩ = some (.slice (some ⟨C.hb, 0, none⟩) E.n E.n)
  s5 : w.cell? ⟨C.sb, 5, none⟩ = some (.bool E.use)
  s6 : w.cell? ⟨C.sb, 6, none⟩ = some (.slice (some ⟨E.gr, 0, none⟩) 3 3)
  s7 : w.cell? ⟨C.sb, 7, none⟩ = some (.slice (some ⟨C.mb, 0, none⟩) E.n E.n)
  s8 : w.cell? ⟨C.sb, 8, none⟩ = some (.slice (some ⟨C.nb, 0, none⟩) E.n E.n)
  t : ∀ i, i < E.n → w.cell? ⟨C.tb, i, none⟩ = some (E.tv i).val
  k : ∀ i, i < E.n → w.cell? ⟨C.kb, i, none⟩ = some (.int .i64 (E.kind i : Int))
  p : ∀ i, i < E.n → E.kind i = 1 → w.cell? ⟨C.pb, i, none⟩ = some (.int .i64 (E.pidx i : Int))
  h : ∀ i, i < E.n → w.cell? ⟨C.hb, i, none⟩ = some (.bool (E.has i))
  c : ∀ i, i < E.n → ∃ v, w.cell? ⟨C.cb, i, none⟩ = some v ∧ RowK F w v (E.np i) (fun j => .int .i64 (E.kd i j : Int))

theorem StIn.kp {E : Env} {C : Ck} {F F' : Nat → Prop} {w w' : World} (h : StIn E C F w) (k : Kp F w w') (hF : ∀ j, F j → F' j) : StIn E C F' w' := by
  obtain ⟨f1, f2, f3, f4, f5, f6⟩ := h.f
  have q1 := k _ f1
  exact ⟨⟨hF _ f1, hF _ f2, hF _ f3, hF _ f4, hF _ f5, hF _ f6⟩, (cell_same q1 0).trans h.s0, (cell_same q1 1).trans h.s1, (cell_same q1 2).trans h.s2, (cell_same q1 3).trans h.s3, (cell_same q1 4).trans h.s4, (cell_same q1 5).trans h.s5, (cell_same q1 6).trans h.s6, (cell_same q1 7).trans h.s7, (cell_same q1 8).trans h.s8,
    fun i hi => (cell_same (k _ f2) i).trans (h.t i hi), fun i hi => (cell_same (k _ f3) i).trans (h.k i hi), fun i hi e => (cell_same (k _ f4) i).trans (h.p i hi e), fun i hi => (cell_same (k _ f6) i).trans (h.h i hi), fun i hi => by
      obtain ⟨v, h1, h2⟩ := h.c i hi
      exact ⟨v, (cell_same (k _ f5) i).trans h1, h2.kp k hF⟩⟩

/-- The state: what has been seen, and with what. -/
structure Seen (E : Env) (C : Ck) (D : List (Ky × Ky)) (w : World) : Prop where
  ex : ∃ (s : Nat → Bool) (mf : Nat → Value), (∀ i, i < E.n → w.cell? ⟨C.nb, i, none⟩ = some (.bool (s i)) ∧ w.frozen? ⟨C.nb, i, none⟩ = false ∧ w.cell? ⟨C.mb, i, none⟩ = some (mf i) ∧ w.frozen? ⟨C.mb, i, none⟩ = false) ∧ ∀ i, i < E.n → s i = true → mf i = (rr D (E.tv i)).val

structure CI (E : Env) (C : Ck) (F : Nat → Prop) (D : List (Ky × Ky)) (w : World) : Prop where
  dag : DagIn E F w
  good : Good E F w D
  st : StIn E C F w
  seen : Seen E C D w
  flt : ∀ j, F j → j < w.heap.size
  fm : ¬ F C.mb
  fn : ¬ F C.nb
  mn : C.mb ≠ C.nb

theorem CI.same {E : Env} {C : Ck} {F : Nat → Prop} {D : List (Ky × Ky)} {w w' : World} (h : CI E C F D w) (g : Grw None' w w') : CI E C F D w' := by
  have kp : Kp F w w' := g.kp (fun j hj => ⟨h.flt j hj, fun e => e⟩)
  obtain ⟨s, mf, h1, h2⟩ := h.seen.ex
  refine ⟨h.dag.kp kp (fun _ e => e), h.good.kp kp (fun _ e => e), h.st.kp kp (fun _ e => e), ⟨s, mf, fun i hi => ?_, h2⟩, fun j hj => Nat.lt_of_lt_of_le (h.flt j hj) g.size, h.fm, h.fn, h.mn⟩
  obtain ⟨a, b, c, d⟩ := h1 i hi
  exact ⟨g.cellOf a (fun e => e), (g.frozen (World.block_lt_of_cell? _ _ a) (fun e => e)).trans b, g.cellOf c (fun e => e), (g.frozen (World.block_lt_of_cell? _ _ c) (fun e => e)).trans d⟩

theorem CI.mark {E : Env} {C : Ck} {F : Nat → Prop} {D : List (Ky × Ky)} {w : World} (h : CI E C F D w) (i : Nat) (hi : i < E.n) : CI E C F D ((w.setCell ⟨C.nb, i, none⟩ (.bool true)).setCell ⟨C.mb, i, none⟩ (rr D (E.tv i)).val) := by
  have g : Grw (fun j => j = C.mb ∨ j = C.nb) w ((w.setCell ⟨C.nb, i, none⟩ (.bool true)).setCell ⟨C.mb, i, none⟩ (rr D (E.tv i)).val) := ((Grw.refl (fun j => j = C.mb ∨ j = C.nb) w).setCell (a := ⟨C.nb, i, none⟩) (fun _ => .inr rfl) _).setCell (a := ⟨C.mb, i, none⟩) (fun _ => .inl rfl) _
  have kp : Kp F w ((w.setCell ⟨C.nb, i, none⟩ (.bool true)).setCell ⟨C.mb, i, none⟩ (rr D (E.tv i)).val) := g.kp (fun j hj => ⟨h.flt j hj, fun e => by
    rcases e with e | e
    · exact h.fm (e ▸ hj)
    · exact h.fn (e ▸ hj)⟩)
  obtain ⟨s, mf, h1, h2⟩ := h.seen.ex
  have hmn := h.mn
  refine ⟨h.dag.kp kp (fun _ e => e), h.good.kp kp (fun _ e => e), h.st.kp kp (fun _ e => e), ⟨fun j => if j = i then true else s j, fun j => if j = i then (rr D (E.tv i)).val else mf j, fun j hj => ?_, fun j hj => ?_⟩, fun j hj => Nat.lt_of_lt_of_le (h.flt j hj) g.size, h.fm, h.fn, h.mn⟩
  · obtain ⟨a, b, c, d⟩ := h1 j hj
    obtain ⟨a', b', c', d'⟩ := h1 i hi
    dsimp only
    refine ⟨?_, by rw [World.frozen?_setCell, World.frozen?_setCell]; exact b, ?_, by rw [World.frozen?_setCell, World.frozen?_setCell]; exact d⟩
    · rw [World.cell?_setCell_other _ _ _ _ (by simp [hmn])]
      by_cases e : j = i
      · subst e
        rw [if_pos rfl]
        exact World.cell?_setCell_same _ _ _ a
      · rw [if_neg e, World.cell?_setCell_other _ _ _ _ (by simp [Ne.symm e])]
        exact a
    · have c2 : ∀ x, (w.setCell ⟨C.nb, i, none⟩ (.bool true)).cell? ⟨C.mb, x, none⟩ = w.cell? ⟨C.mb, x, none⟩ := fun x => World.cell?_setCell_other _ _ _ _ (by simp [Ne.symm hmn])
      by_cases e : j = i
      · subst e
        rw [if_pos rfl]
        exact World.cell?_setCell_same _ _ _ ((c2 j).trans c)
      · rw [if_neg e, World.cell?_setCell_other _ _ _ _ (by simp [Ne.symm e])]
        exact (c2 j).trans c
  · by_cases e : j = i
    · subst e
      simp
    · simp only [if_neg e]
      exact h2 j hj

theorem rowK_form {F : Nat → Prop} {w : World} {v : Value} {m : Nat} {f : Nat → Value} (h : RowK F w v m f) : ∃ ao cap, v = .slice ao m cap ∧ m ≤ cap ∧ (0 < m → ∃ g, ao = some ⟨g, 0, none⟩ ∧ F g ∧ ∀ j, j < m → w.cell? ⟨g, j, none⟩ = some (f j)) := by
  rcases h with ⟨h1, h2⟩ | ⟨g, cap, h1, h2, h3, h4⟩
  · exact ⟨none, 0, by rw [h1, h2], by omega, fun h => by omega⟩
  · exact ⟨_, cap, h1, h2, fun _ => ⟨g, rfl, h3, h4⟩⟩

def LpR (E : Env) (C : Ck) (F : Nat → Prop) (D : List (Ky × Ky)) (w : World) (m : Nat) (g : Nat) (vi : Value) (wr : World) : Prop :=
  ∃ j, j ≤ m ∧ g = m - j ∧ vi = .int .i64 (j : Int) ∧ CI E C F D wr ∧ Grw (fun j => j = C.mb ∨ j = C.nb) w wr

def ChkPost (E : Env) (C : Ck) (F : Nat → Prop) (D : List (Ky × Ky)) (w : World) (e : Ending) (w' : World) : Prop :=
  e = .returned (.bool true) ∧ CI E C F D w' ∧ Grw (fun j => j = C.mb ∨ j = C.nb) w w'
set_option maxRecDepth 100000 in
set_option maxHeartbeats 8000000 in
theorem check13 (E : Env) (ok : E.OK) (C : Ck) (F : Nat → Prop) (D : List (Ky × Ky)) : ∀ i, i < E.n → isD D (E.tv i) → ∀ w, CI E C F D w → Calls Yba.prog 13 #[fp C.sb, .int .i64 (i : Int), (rr D (E.tv i)).val] w (ChkPost E C F D w) := by
  intro i
  induction i using Nat.strongRecOn with
  | _ i ih =>
  intro hi hd w hc
  have IH : Hid _ := ih
  have Ok : Hid _ := ok
  have Hc : Hid (CI E C F D w) := hc
  have HM : Hid (CI E C F D ((w.setCell ⟨C.nb, i, none⟩ (.bool true)).setCell ⟨C.mb, i, none⟩ (rr D (E.tv i)).val)) := hc.mark i hi
  have hres := (hc.good i hi _ hd.img).1
  have hkid := (hc.good i hi _ hd.img).2
  have hpm := ((hc.mark i hi).good i hi _ hd.img).1.pl.2
  obtain ⟨s, mf, hs1, hs2⟩ := hc.seen.ex
  obtain ⟨a1, a2, a3, a4⟩ := hs1 i hi
  have hs3 := hs2 i hi
  clear hs1 hs2
  have s8 := hc.st.s8
  have s7 := hc.st.s7
  have s5 := hc.st.s5
  have s4 := hc.st.s4
  have s0 := hc.st.s0
  have s1 := hc.st.s1
  have hh := hc.st.h i hi
  have ht := hc.st.t i hi
  have hk := hc.st.k i hi
  have nbs : C.nb ≠ C.sb := fun e => hc.fn (e ▸ hc.st.f.1)
  have mbs : C.mb ≠ C.sb := fun e => hc.fm (e ▸ hc.st.f.1)
  have nbt : C.nb ≠ C.tb := fun e => hc.fn (e ▸ hc.st.f.2.1)
  have mbt : C.mb ≠ C.tb := fun e => hc.fm (e ▸ hc.st.f.2.1)
  have nbk : C.nb ≠ C.kb := fun e => hc.fn (e ▸ hc.st.f.2.2.1)
  have mbk : C.mb ≠ C.kb := fun e => hc.fm (e ▸ hc.st.f.2.2.1)
  have nbh : C.nb ≠ C.hb := fun e => hc.fn (e ▸ hc.st.f.2.2.2.2.2)
  have mbh : C.mb ≠ C.hb := fun e => hc.fm (e ▸ hc.st.f.2.2.2.2.2)
  have hmn := hc.mn
  have hn := ok.nb
  clear ih ok hc
  generalize hr : rr D (E.tv i) = k at *
  have Hr : Hid _ := hr
  have Hd : Hid _ := hd
  have Hkid : Hid _ := hkid
  clear hr hd hkid
  have kok := hres.ok
  have kpl := hres.pl.2
  have Hres : Hid _ := hres
  clear hres
  unfold fp
  cases hsi : s i with
  | true =>
    rw [hsi] at a1
    have a3' := hs3 hsi
    rw [a3'] at a3
    have he := eql_ky w k k kok kpl kpl
    rw [decide_eq_true rfl] at he
    clear hsi hs3 a3'
    unfold Ky.val at he a3 ⊢
    go_enter Yba.func13, Yba.ntmps13
    go_wp2_with fail
    go_ret
    exact ⟨rfl, Hc.out, Grw.refl _ _⟩
  | false =>
    rw [hsi] at a1
    clear hsi hs3
    generalize mf i = m0 at *
    have he := eql_ky ((w.setCell ⟨C.nb, i, none⟩ (.bool true)).setCell ⟨C.mb, i, none⟩ k.val) k k kok hpm hpm
    rw [decide_eq_true rfl] at he
    have gm : Hid (Grw (fun j => j = C.mb ∨ j = C.nb) w ((w.setCell ⟨C.nb, i, none⟩ (.bool true)).setCell ⟨C.mb, i, none⟩ k.val)) := ((Grw.refl (fun j => j = C.mb ∨ j = C.nb) w).setCell (a := ⟨C.nb, i, none⟩) (fun _ => .inr rfl) _).setCell (a := ⟨C.mb, i, none⟩) (fun _ => .inl rfl) _
    cases hu : E.use with
    | false =>
      rw [hu] at s5
      have hke : k = E.tv i := Hres.out.same (.inl hu)
      rw [← hke] at ht
      clear hke
      unfold Ky.val at he ht HM gm ⊢
      go_enter Yba.func13, Yba.ntmps13
      go_wp2_with fail
      go_ret
      exact ⟨rfl, HM.out, gm.out⟩
    | true =>
      rw [hu] at s5
      cases hh2 : E.has i with
      | false =>
        rw [hh2] at hh
        have hke : k = E.tv i := Hres.out.same (.inr hh2)
        rw [← hke] at ht
        clear hke
        unfold Ky.val at he ht HM gm ⊢
        go_enter Yba.func13, Yba.ntmps13
        go_wp2_with fail
        go_ret
        exact ⟨rfl, HM.out, gm.out⟩
      | true =>
        rw [hh2] at hh
        have h4 := Ok.out.k4 i hi
        have hk0 : E.kind i ≠ 0 := fun q => by
          rcases (Ok.out.hs i hi).1 hh2 with h3 | ⟨j, hj, _⟩
          · omega
          · rw [Env.np0 (.inl q)] at hj; omega
        rcases (by omega : E.kind i = 1 ∨ E.kind i = 2 ∨ E.kind i = 3) with q | q | q
        · rw [q] at hk
          have hke := Hres.out.par hu q
          have hp := Hc.out.st.p i hi q
          have hpl := Ok.out.plt i hi q
          have hg := Hc.out.dag.tgt.e (E.pidx i) hpl
          simp only [fp] at hg
          have s6 := Hc.out.st.s6
          have s2 := Hc.out.st.s2
          have nbp : C.nb ≠ C.pb := fun e => Hc.out.fn (e ▸ Hc.out.st.f.2.2.2.1)
          have mbp : C.mb ≠ C.pb := fun e => Hc.out.fm (e ▸ Hc.out.st.f.2.2.2.1)
          have nbg : C.nb ≠ E.gr := fun e => Hc.out.fn (e ▸ Hc.out.dag.ftgt.2.1)
          have mbg : C.mb ≠ E.gr := fun e => Hc.out.fm (e ▸ Hc.out.dag.ftgt.2.1)
          have hdr : ∀ n, (binOp .eql 49 (.iface 53 (.pointer (some ⟨E.tgt (E.pidx i), 0, none⟩))) (.iface 53 (.pointer (some ⟨E.tgt (E.pidx i), 0, none⟩)))).run Yba.prog (((w.setCell ⟨C.nb, i, none⟩ (.bool true)).setCell ⟨C.mb, i, none⟩ (.iface 53 (.pointer (some ⟨E.tgt (E.pidx i), 0, none⟩)))).drewN n) = .ok (.bool true) (((w.setCell ⟨C.nb, i, none⟩ (.bool true)).setCell ⟨C.mb, i, none⟩ (.iface 53 (.pointer (some ⟨E.tgt (E.pidx i), 0, none⟩)))).drewN n) := fun n => by
            rw [hke] at hpm kok
            have h9 := eql_ky (((w.setCell ⟨C.nb, i, none⟩ (.bool true)).setCell ⟨C.mb, i, none⟩ (Ky.mk 53 (E.tgt (E.pidx i))).val).drewN n) ⟨53, E.tgt (E.pidx i)⟩ ⟨53, E.tgt (E.pidx i)⟩ (.inr (.inl rfl)) (hpm.same rfl) (hpm.same rfl)
            rw [decide_eq_true rfl] at h9
            exact h9
          rw [hke] at HM gm ⊢
          clear he hke hpm kpl kok Hres Hr
          generalize E.tgt (E.pidx i) = tg at *
          generalize E.pidx i = px at *
          have hpx : (px : Int) < 3 := by omega
          unfold Ky.val at HM gm ⊢
          go_enter Yba.func13, Yba.ntmps13
          go_wp2_with fail
          go_quiet (fail)
          go_wp2_with fail
          go_ret
          exact ⟨rfl, HM.out.same ((Grw.refl _ _).aft ⟨[], _⟩), gm.out.aft ⟨[], _⟩⟩
        · rw [q] at hk
          obtain ⟨kt, kB, hN⟩ := Hres.out.nam hu hh2 q
          obtain ⟨kt0, b⟩ := k
          simp only at kt hN
          subst kt
          have hb1 : C.nb ≠ b := fun e => Hc.out.fn (e ▸ hN.fb)
          have hb2 : C.mb ≠ b := fun e => Hc.out.fm (e ▸ hN.fb)
          obtain ⟨va, hn1, hn2⟩ := hN.ex
          obtain ⟨ao, cap, rfl, hcap, hrow⟩ := rowK_form hn2
          obtain ⟨vk, hk1, hk2⟩ := Hc.out.st.c i hi
          rw [Env.np2 q] at hk2
          obtain ⟨ao2, cap2, rfl, hcap2, hrow2⟩ := rowK_form hk2
          have n0 := hn1.c0
          have n1 := hn1.c1
          have s3 := Hc.out.st.s3
          have nbc : C.nb ≠ C.cb := fun e => Hc.out.fn (e ▸ Hc.out.st.f.2.2.2.2.1)
          have mbc : C.mb ≠ C.cb := fun e => Hc.out.fm (e ▸ Hc.out.st.f.2.2.2.2.1)
          have Kc : Hid (w.cell? ⟨C.cb, i, none⟩ = some (.slice ao2 (E.m i) cap2)) := hk1
          have N1 : Hid (w.cell? ⟨b, 1, none⟩ = some (.slice ao (E.m i) cap)) := n1
          have Hrow : Hid _ := hrow
          have Hrow2 : Hid _ := hrow2
          have Fb : Hid (F b) := hN.fb
          have hm2 := Ok.out.mle i hi
          have Hkd : Hid (∀ j, j < E.m i → isD D (E.tv (E.kd i j)) ∧ E.kd i j < i) := fun j hj => ⟨Hkid.out j (by rw [Env.np2 q]; exact hj), Ok.out.kdlt i j hi (by rw [Env.np2 q]; exact hj)⟩
          clear he hpm kpl kok Hres hN hn1 hn2 hk2 hrow hrow2 kB
          generalize hmi : E.m i = m at *
          have Hmi : Hid _ := hmi
          clear hmi
          unfold Ky.val at HM gm ⊢
          simp only at HM gm ⊢
          go_enter Yba.func13, Yba.ntmps13
          go_wp2_with fail
          go_quiet (fail)
          go_wp2_with fail
          go_loopg [9] m (fun g vi wr => LpR E C F D w m g vi wr)
          case atStart => exact ⟨0, Nat.zero_le _, by simp, rfl, HM.out.same ((Grw.refl _ _).aft ⟨[], _⟩), gm.out.aft ⟨[], _⟩⟩
          case round =>
            obtain ⟨j, hj, hg, rfl, hci, hgw⟩ := hrel
            have Hg : Hid _ := hg
            have Hci : Hid _ := hci
            have Hgw : Hid _ := hgw
            have nM : ∀ x, F x → ¬ (x = C.mb ∨ x = C.nb) := fun x hx e => by
              rcases e with e | e
              · exact Hc.out.fm (e ▸ hx)
              · exact Hc.out.fn (e ▸ hx)
            have NM : Hid _ := nM
            have r1 := hgw.cellOf n1 (nM _ Fb.out)
            clear hg hci hgw nM n0 n1 s0 s1 s3 s4 s5 s7 s8 hh ht hk hk1 a1 a2 a3 a4 HM gm
            by_cases hlt : j < m
            · obtain ⟨ga, rfl, fga, hga⟩ := Hrow.out (by omega)
              obtain ⟨gk2, rfl, fgk, hgk⟩ := Hrow2.out (by omega)
              obtain ⟨hdj, hlj⟩ := Hkd.out j hlt
              have hcall : Hid (∀ W, Grw None' wr W → Calls Yba.prog 13 #[.pointer (some ⟨C.sb, 0, none⟩), .int .i64 (E.kd i j : Int), (rr D (E.tv (E.kd i j))).val] W (fun e w' => e = .returned (.bool true) ∧ CI E C F D w' ∧ Grw (fun j => j = C.mb ∨ j = C.nb) w w' ∧ (w'.cell? ⟨C.sb, 3, none⟩ = some (.slice (some ⟨C.cb, 0, none⟩) E.n E.n) ∧ w'.cell? ⟨C.cb, i, none⟩ = some (.slice (some ⟨gk2, 0, none⟩) m cap2) ∧ w'.cell? ⟨gk2, j, none⟩ = some (.int .i64 (E.kd i j : Int)) ∧ w'.cell? ⟨b, 1, none⟩ = some (.slice (some ⟨ga, 0, none⟩) m cap) ∧ w'.cell? ⟨ga, j, none⟩ = some (rr D (E.tv (E.kd i j))).val))) := fun W g => by
                refine Calls.mono (IH.out (E.kd i j) hlj (by omega) hdj W (Hci.out.same g)) ?_
                rintro e w' ⟨rfl, c1, c2⟩
                have c3 := (Hgw.out.trans (g.mono (fun _ _ e => e.elim))).trans c2
                obtain ⟨v5, k5, _⟩ := Hc.out.st.c i hi
                exact ⟨rfl, c1, c3, c3.cellOf Hc.out.st.s3 (NM.out _ Hc.out.st.f.1), c3.cellOf Kc.out (NM.out _ Hc.out.st.f.2.2.2.2.1), c3.cellOf (hgk j hlt) (NM.out _ fgk), c3.cellOf N1.out (NM.out _ Fb.out), c3.cellOf (hga j hlt) (NM.out _ fga)⟩
              have q1 := Hgw.out.cellOf Hc.out.st.s3 (NM.out _ Hc.out.st.f.1)
              have q2 := Hgw.out.cellOf Kc.out (NM.out _ Hc.out.st.f.2.2.2.2.1)
              have q3 := Hgw.out.cellOf (hgk j hlt) (NM.out _ fgk)
              have q4 := Hgw.out.cellOf (hga j hlt) (NM.out _ fga)
              have hjm : (j : Int) < (m : Int) := by omega
              have hin : (i : Int) < (E.n : Int) := by omega
              clear hga hgk hdj hlj
              go_wp2_with fail
              go_cut [156] (fun s wx => s = .bool false ∧ CI E C F D wx ∧ Grw (fun j => j = C.mb ∨ j = C.nb) w wx)
              case first =>
                go_region_held3 (fun w' => w'.cell? ⟨C.sb, 3, none⟩ = some (.slice (some ⟨C.cb, 0, none⟩) E.n E.n) ∧ w'.cell? ⟨C.cb, i, none⟩ = some (.slice (some ⟨gk2, 0, none⟩) m cap2) ∧ w'.cell? ⟨gk2, j, none⟩ = some (.int .i64 (E.kd i j : Int)) ∧ w'.cell? ⟨b, 1, none⟩ = some (.slice (some ⟨ga, 0, none⟩) m cap) ∧ w'.cell? ⟨ga, j, none⟩ = some (rr D (E.tv (E.kd i j))).val) (first | exact ⟨e1, e2, e3, e4, e5⟩ | exact ⟨q1, q2, q3, r1, q4⟩) (first | (go_at_call 13; refine Calls.mono (hcall.out _ (Grw.refl None' wr).drew) ?_; rintro e w1 ⟨rfl, d1, d2, e1, e2, e3, e4, e5⟩; have D1 : Hid _ := d1; have D2 : Hid _ := d2; clear d1 d2))
                all_goals
                  go_wp2_with fail
                  go_meet
                  exact ⟨rfl, D1.out, D2.out⟩
              case rest =>
                obtain ⟨rfl, d1, d2⟩ := hcut
                have D1 : Hid _ := d1
                have D2 : Hid _ := d2
                clear d1 d2
                go_wp2_with fail
                go_roundg (m - (j + 1))
                case measure => rw [Hg.out]; omega
                case rel => exact ⟨j + 1, by omega, rfl, by go_num, D1.out, D2.out⟩
            · obtain rfl : j = m := by omega
              go_wp2_with fail
              go_ret
              exact ⟨rfl, Hci.out, Hgw.out⟩
        · rw [q] at hk
          obtain ⟨kt, kB, hN⟩ := Hres.out.str hu hh2 q
          obtain ⟨kt0, b⟩ := k
          simp only at kt hN
          subst kt
          have hb1 : C.nb ≠ b := fun e => Hc.out.fn (e ▸ hN.fb)
          have hb2 : C.mb ≠ b := fun e => Hc.out.fm (e ▸ hN.fb)
          obtain ⟨va, ps, hn1, hn2, hfs⟩ := hN.ex
          obtain ⟨ao, cap, rfl, hcap, hrow⟩ := rowK_form hn2
          obtain ⟨vk, hk1, hk2⟩ := Hc.out.st.c i hi
          rw [Env.np3 q] at hk2
          obtain ⟨ao2, cap2, rfl, hcap2, hrow2⟩ := rowK_form hk2
          have n0 := hn1.c0
          have s3 := Hc.out.st.s3
          have nbc : C.nb ≠ C.cb := fun e => Hc.out.fn (e ▸ Hc.out.st.f.2.2.2.2.1)
          have mbc : C.mb ≠ C.cb := fun e => Hc.out.fm (e ▸ Hc.out.st.f.2.2.2.2.1)
          have Kc : Hid (w.cell? ⟨C.cb, i, none⟩ = some (.slice ao2 (2 * E.m i) cap2)) := hk1
          have N0 : Hid (w.cell? ⟨b, 0, none⟩ = some (.slice ao (E.m i) cap)) := n0
          have Hrow : Hid _ := hrow
          have Hrow2 : Hid _ := hrow2
          have Hfs : Hid _ := hfs
          have Fb : Hid (F b) := hN.fb
          have hm2 := Ok.out.mle i hi
          have Hkd : Hid (∀ j, j < 2 * E.m i → isD D (E.tv (E.kd i j)) ∧ E.kd i j < i) := fun j hj => ⟨Hkid.out j (by rw [Env.np3 q]; exact hj), Ok.out.kdlt i j hi (by rw [Env.np3 q]; exact hj)⟩
          clear he hpm kpl kok Hres hN hn1 hn2 hk2 hrow hrow2 kB hfs
          generalize hmi : E.m i = m at *
          have Hmi : Hid _ := hmi
          clear hmi
          unfold Ky.val at HM gm ⊢
          simp only at HM gm ⊢
          go_enter Yba.func13, Yba.ntmps13
          go_wp2_with fail
          go_quiet (fail)
          go_wp2_with fail
          go_loopg [12] m (fun g vi wr => LpR E C F D w m g vi wr)
          case atStart => exact ⟨0, Nat.zero_le _, by simp, rfl, HM.out.same ((Grw.refl _ _).aft ⟨[], _⟩), gm.out.aft ⟨[], _⟩⟩
          case round =>
            obtain ⟨j, hj, hg, rfl, hci, hgw⟩ := hrel
            have Hg : Hid _ := hg
            have Hci : Hid _ := hci
            have Hgw : Hid _ := hgw
            have nM : ∀ x, F x → ¬ (x = C.mb ∨ x = C.nb) := fun x hx e => by
              rcases e with e | e
              · exact Hc.out.fm (e ▸ hx)
              · exact Hc.out.fn (e ▸ hx)
            have NM : Hid _ := nM
            have r0 := hgw.cellOf n0 (nM _ Fb.out)
            clear hg hci hgw nM n0 s0 s1 s3 s4 s5 s7 s8 hh ht hk hk1 a1 a2 a3 a4 HM gm
            by_cases hlt : j < m
            · obtain ⟨ga, rfl, fga, hga⟩ := Hrow.out (by omega)
              obtain ⟨gk2, rfl, fgk, hgk⟩ := Hrow2.out (by omega)
              have hfj := Hfs.out j hlt
              have p1 := Hgw.out.cellOf (hga j hlt) (NM.out _ fga)
              simp only [fp] at p1
              have p2 := Hgw.out.cellOf hfj.2.c0 (NM.out _ hfj.1)
              have hcall0 : Hid (∀ W, CI E C F D W → Grw (fun j => j = C.mb ∨ j = C.nb) w W → Calls Yba.prog 13 #[.pointer (some ⟨C.sb, 0, none⟩), .int .i64 (E.kd i (2 * j) : Int), (rr D (E.tv (E.kd i (2 * j)))).val] W (fun e w' => e = .returned (.bool true) ∧ CI E C F D w' ∧ Grw (fun j => j = C.mb ∨ j = C.nb) w w' ∧ (w'.cell? ⟨C.sb, 3, none⟩ = some (.slice (some ⟨C.cb, 0, none⟩) E.n E.n) ∧ w'.cell? ⟨C.cb, i, none⟩ = some (.slice (some ⟨gk2, 0, none⟩) (2 * m) cap2) ∧ w'.cell? ⟨gk2, 2 * j, none⟩ = some (.int .i64 (E.kd i (2 * j) : Int)) ∧ w'.cell? ⟨ps j, 3, none⟩ = some (rr D (E.tv (E.kd i (2 * j)))).val))) := fun W ciW gW => by
                obtain ⟨hdj, hlj⟩ := Hkd.out (2 * j) (by omega)
                refine Calls.mono (IH.out (E.kd i (2 * j)) hlj (by omega) hdj W ciW) ?_
                rintro e w' ⟨rfl, c1, c2⟩
                have c3 := gW.trans c2
                exact ⟨rfl, c1, c3, c3.cellOf Hc.out.st.s3 (NM.out _ Hc.out.st.f.1), c3.cellOf Kc.out (NM.out _ Hc.out.st.f.2.2.2.2.1), c3.cellOf (hgk (2 * j) (by omega)) (NM.out _ fgk), c3.cellOf (hfj.2.c3) (NM.out _ hfj.1)⟩
              have hcall1 : Hid (∀ W, CI E C F D W → Grw (fun j => j = C.mb ∨ j = C.nb) w W → Calls Yba.prog 13 #[.pointer (some ⟨C.sb, 0, none⟩), .int .i64 (E.kd i (2 * j + 1) : Int), (rr D (E.tv (E.kd i (2 * j + 1)))).val] W (fun e w' => e = .returned (.bool true) ∧ CI E C F D w' ∧ Grw (fun j => j = C.mb ∨ j = C.nb) w w' ∧ (w'.cell? ⟨C.sb, 3, none⟩ = some (.slice (some ⟨C.cb, 0, none⟩) E.n E.n) ∧ w'.cell? ⟨C.cb, i, none⟩ = some (.slice (some ⟨gk2, 0, none⟩) (2 * m) cap2) ∧ w'.cell? ⟨gk2, 2 * j + 1, none⟩ = some (.int .i64 (E.kd i (2 * j + 1) : Int)) ∧ w'.cell? ⟨ps j, 4, none⟩ = some (rr D (E.tv (E.kd i (2 * j + 1)))).val))) := fun W ciW gW => by
                obtain ⟨hdj, hlj⟩ := Hkd.out (2 * j + 1) (by omega)
                refine Calls.mono (IH.out (E.kd i (2 * j + 1)) hlj (by omega) hdj W ciW) ?_
                rintro e w' ⟨rfl, c1, c2⟩
                have c3 := gW.trans c2
                exact ⟨rfl, c1, c3, c3.cellOf Hc.out.st.s3 (NM.out _ Hc.out.st.f.1), c3.cellOf Kc.out (NM.out _ Hc.out.st.f.2.2.2.2.1), c3.cellOf (hgk (2 * j + 1) (by omega)) (NM.out _ fgk), c3.cellOf (hfj.2.c4) (NM.out _ hfj.1)⟩
              have Hga : Hid _ := hga
              have Hgk : Hid _ := hgk
              have Hfj : Hid _ := hfj
              have Q : Hid (∀ W, Grw (fun j => j = C.mb ∨ j = C.nb) w W → (W.cell? ⟨C.sb, 3, none⟩ = some (.slice (some ⟨C.cb, 0, none⟩) E.n E.n) ∧ W.cell? ⟨C.cb, i, none⟩ = some (.slice (some ⟨gk2, 0, none⟩) (2 * m) cap2)) ∧ (W.cell? ⟨gk2, 2 * j, none⟩ = some (.int .i64 (E.kd i (2 * j) : Int)) ∧ W.cell? ⟨gk2, 2 * j + 1, none⟩ = some (.int .i64 (E.kd i (2 * j + 1) : Int))) ∧ W.cell? ⟨ps j, 3, none⟩ = some (rr D (E.tv (E.kd i (2 * j)))).val ∧ W.cell? ⟨ps j, 4, none⟩ = some (rr D (E.tv (E.kd i (2 * j + 1)))).val) := fun W gW =>
                ⟨⟨gW.cellOf Hc.out.st.s3 (NM.out _ Hc.out.st.f.1), gW.cellOf Kc.out (NM.out _ Hc.out.st.f.2.2.2.2.1)⟩, ⟨gW.cellOf (hgk (2 * j) (by omega)) (NM.out _ fgk), gW.cellOf (hgk (2 * j + 1) (by omega)) (NM.out _ fgk)⟩, gW.cellOf hfj.2.c3 (NM.out _ hfj.1), gW.cellOf hfj.2.c4 (NM.out _ hfj.1)⟩
              have hjm : (j : Int) < (m : Int) := by omega
              have hin : (i : Int) < (E.n : Int) := by omega
              have hj2 : 2 * j < 2 * m := by omega
              have hj3 : 2 * j + 1 < 2 * m := by omega
              have hI0 : (0 : Int) ≤ 2 * (j : Int) := by omega
              have hI1 : 2 * (j : Int) < 2 * (m : Int) := by omega
              have hI2 : (0 : Int) ≤ 2 * (j : Int) + 1 := by omega
              have hI3 : 2 * (j : Int) + 1 < 2 * (m : Int) := by omega
              have hT0 : (2 * (j : Int)).toNat = 2 * j := by omega
              have hT1 : (2 * (j : Int) + 1).toNat = 2 * j + 1 := by omega
              have hW0 : IntKind.i64.wrap (2 * (j : Int)) = 2 * (j : Int) := by rw [IntKind.wrap_i64]; omega
              have hW1 : IntKind.i64.wrap (2 * (j : Int) + 1) = 2 * (j : Int) + 1 := by rw [IntKind.wrap_i64]; omega
              clear hga hgk hfj
              obtain ⟨⟨q1, q2⟩, ⟨q3, q3'⟩, q4, q4'⟩ := Q.out wr Hgw.out
              go_wp2_with fail
              go_cut [230] (fun s wx => s = .bool false ∧ CI E C F D wx ∧ Grw (fun j => j = C.mb ∨ j = C.nb) w wx)
              case first =>
                go_region_held3 (fun w' => w'.cell? ⟨C.sb, 3, none⟩ = some (.slice (some ⟨C.cb, 0, none⟩) E.n E.n) ∧ w'.cell? ⟨C.cb, i, none⟩ = some (.slice (some ⟨gk2, 0, none⟩) (2 * m) cap2) ∧ w'.cell? ⟨gk2, 2 * j, none⟩ = some (.int .i64 (E.kd i (2 * j) : Int)) ∧ w'.cell? ⟨ps j, 3, none⟩ = some (rr D (E.tv (E.kd i (2 * j)))).val) (first | exact ⟨e1, e2, e3, e4⟩ | exact ⟨q1, q2, q3, q4⟩) (first | (go_at_call 13; refine Calls.mono (hcall0.out _ (Hci.out.same (Grw.refl None' wr).drew) (Hgw.out.drew)) ?_; rintro e w1 ⟨rfl, d1, d2, e1, e2, e3, e4⟩; have D1 : Hid _ := d1; have D2 : Hid _ := d2; clear d1 d2))
                all_goals
                  go_wp2_with fail
                  go_meet
                  exact ⟨rfl, D1.out, D2.out⟩
              case rest =>
                obtain ⟨rfl, d1, d2⟩ := hcut
                have D1 : Hid _ := d1
                have D2 : Hid _ := d2
                clear d1 d2 q1 q2 q3 q3' q4 q4' p1 p2 r0
                obtain ⟨⟨q1, q2⟩, ⟨q3, q3'⟩, q4, q4'⟩ := Q.out wc D2.out
                go_wp2_with fail
                go_cut [250] (fun s wx => s = .bool false ∧ CI E C F D wx ∧ Grw (fun j => j = C.mb ∨ j = C.nb) w wx)
                case first =>
                  go_region_held3 (fun w' => w'.cell? ⟨C.sb, 3, none⟩ = some (.slice (some ⟨C.cb, 0, none⟩) E.n E.n) ∧ w'.cell? ⟨C.cb, i, none⟩ = some (.slice (some ⟨gk2, 0, none⟩) (2 * m) cap2) ∧ w'.cell? ⟨gk2, 2 * j + 1, none⟩ = some (.int .i64 (E.kd i (2 * j + 1) : Int)) ∧ w'.cell? ⟨ps j, 4, none⟩ = some (rr D (E.tv (E.kd i (2 * j + 1)))).val) (first | exact ⟨e1, e2, e3, e4⟩ | exact ⟨q1, q2, q3', q4'⟩) (first | (go_at_call 13; refine Calls.mono (hcall1.out _ (D1.out.same (Grw.refl None' wc).drew) (D2.out.drew)) ?_; rintro e w1 ⟨rfl, d1, d2, e1, e2, e3, e4⟩; have D3 : Hid _ := d1; have D4 : Hid _ := d2; clear d1 d2))
                  all_goals
                    go_wp2_with fail
                    go_meet
                    exact ⟨rfl, D3.out, D4.out⟩
                case rest =>
                  obtain ⟨rfl, d1, d2⟩ := hcut
                  have D3 : Hid _ := d1
                  have D4 : Hid _ := d2
                  clear d1 d2
                  go_wp2_with fail
                  go_roundg (m - (j + 1))
                  case measure => rw [Hg.out]; omega
                  case rel => exact ⟨j + 1, by omega, rfl, by go_num, D3.out, D4.out⟩
            · obtain rfl : j = m := by omega
              go_wp2_with fail
              go_ret
              exact ⟨rfl, Hci.out, Hgw.out⟩
end Go.Proofs.Ybulkbebo
