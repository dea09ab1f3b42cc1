import Derived.Test.YbulkbeeuReg
import Derived.Deep.DeepCutAuto
import Derived.Deep.RegionLaw
import Derived.Deep.RegionHeld3
namespace Go.Proofs.Ybulkbeeu
open Go.RowKit
set_option linter.unusedSimpArgs false
set_option linter.unusedVariables false

set_option maxRecDepth 100000 in
set_option maxHeartbeats 32000000 in
theorem over_any (w : World) (bb g h : Nat) (M N : Mach) (so co so' co' : Option Addr) (sc cc sc' cc' : Nat) (hM : M.Ok) (hN : N.Ok)
    (hg : GlobAt w w.heap.size bb g M so co sc cc) (hh : GlobAt w w.heap.size bb h N so' co' sc' cc') (hbb : bb < w.heap.size) (hbc : w.cell? ⟨bb, 0, none⟩ = some (.int .i64 1073741824)) (hbf : w.frozen? ⟨bb, 0, none⟩ = false) :
    Calls Yba.prog 8 #[.pointer (some ⟨g, 0, none⟩), .pointer (some ⟨h, 0, none⟩), .pointer (some ⟨bb, 0, none⟩)] w (OverPost w bb M N) := by
  have gc := hg.cs
  have hc := hh.cs
  have m1 := hM.n256
  have n1 := hN.n256
  have gl := hg.gB
  have hl := hh.gB
  have hmk := fun W => newPairSet_any (M.n + 1) (N.n + 1) (by omega) (by omega) W (bitsLen M N) rfl
  rw [show (((M.n + 1 : Nat)) : Int) = (M.n : Int) + 1 from by omega, show (((N.n + 1 : Nat)) : Int) = (N.n : Int) + 1 from by omega] at hmk
  have Hmk : Hid _ := hmk
  clear hmk
  have wM : IntKind.i64.wrap ((M.n : Int) + 1) = (M.n : Int) + 1 := by rw [IntKind.wrap_i64]; omega
  have wN : IntKind.i64.wrap ((N.n : Int) + 1) = (N.n : Int) + 1 := by rw [IntKind.wrap_i64]; omega
  go_enter Yba.func8, Yba.ntmps8
  go_upto_region 1 with fail
  go_cut [7] (fun s7 wc => Head1 w (w.alloc (.cells #[.pointer (some ⟨bb, 0, none⟩)] 38)) wc (N.n + 1) (bitsLen M N) s7)
  case first =>
    go_region_held3 (fun w' => w'.cell? ⟨g, 0, none⟩ = some (.slice so M.n sc) ∧ w'.cell? ⟨h, 0, none⟩ = some (.slice so' N.n sc')) (refine ⟨?_, ?_⟩ <;> (repeat (first | exact gc | exact hc | refine cell_dr ?_ | refine cell_al ?_ _))) (first | (go_at_call 11; refine (Hmk.out _).mono ?_; rintro e w' ⟨rfl, rfl⟩))
    all_goals
      go_wp2_with fail
      go_meet
      first | exact head1_a w _ (N.n + 1) _ | exact head1_b w _ (N.n + 1) _
  case rest =>
    obtain ⟨Sv, S, Bk, rfl, p1, p2, p3, d1, d2, l1, l2, l3, cSv, hsn, hbel⟩ := hcut
    have hL := lay_start w wc bb Sv S Bk hbb p1 p2 p3 l1 l2 l3 d1 d2 hsn.ne
    have hO := ov_start w wc bb Sv S Bk (N.n + 1) (bitsLen M N) hbb hbc hbf p1 p2 p3 l1 l2 l3 cSv hsn hbel
    have hS0 : OvS w (wc.alloc (.cells #[.slice none 0 0] 48)) bb w.heap.size Sv wc.heap.size S Bk (wc.heap.size + 1) M N [] [] 1073741824 := ⟨_, none, 0, hO, fun p _ => by simp⟩
    clear cSv hsn hbel p1 p2 p3 d1 d2 l1 l2 l3 gc hc Hmk wM wN hbf hbc hO
    have hr0 := reachS w _ bb w.heap.size Sv wc.heap.size S Bk (wc.heap.size + 1) M N [] [] 1073741824 hL hM hN hS0 (by simp) (by omega) (by omega) (0, 0) (start_in M N)
    have Hr0 : Hid _ := hr0
    clear hr0 hS0
    go_wp2_with fail
    refine Calls.mono Hr0.out ?_
    clear Hr0
    rintro e w2 ⟨rfl, hS, hR2⟩
    clear hR2
    have hS1 : OvS w w2 bb w.heap.size Sv wc.heap.size S Bk (wc.heap.size + 1) M N [] [(0, 0)] 1073741823 := hS
    clear hS
    generalize wc.heap.size = Pv at *
    clear wc
    have hR : LoopR w w2 bb w.heap.size Sv Pv S Bk (Pv + 1) M N (total M N) (.slice none 0 0) (.slice none 0 0) := LoopR.start hS1
    clear hS1
    go_wp2_with fail
    go_loopg [10, 11] (total M N) (fun gn sX sY wr => LoopR w wr bb w.heap.size Sv Pv S Bk (Pv + 1) M N gn sX sY)
    case atStart => exact hR
    case round =>
      clear hR w2
      obtain ⟨D, pend, bud, aX, nX, cX, xsX, aY, nY, cY, xsY, hD, hgk, hOS, hb1, hb2, rfl, rfl, ownX, ownY, hap⟩ := hrel
      have Hgk : Hid (gk = total M N - D.length) := hgk
      clear hgk
      have htot := total_le hM hN
      have hlen := hD.length
      rcases snoc_cases pend with rfl | ⟨pend', p, rfl⟩
      · obtain ⟨sn, ao, cap, hO, hsn⟩ := hOS
        have c1 := hO.cPv
        have hno := hD.no
        have Hno : Hid _ := hno
        clear hno
        simp only [List.map_nil, List.length_nil] at c1
        go_wp2_with fail
        go_ret
        exact ⟨false, rfl, ⟨(fun h => by cases h), fun h => (Hno.out h).elim⟩, hO.gr, bud, by omega, hO.cbb⟩
      · obtain ⟨sn, ao, cap, hO, hsn⟩ := hOS
        have hpin := hD.inr p (by simp)
        obtain ⟨k, rfl, hkl, ck⟩ := hO.last
        have c1 := hO.cPv
        have c2 := hO.cPb
        have c3 := hO.cbb
        have f1 := hO.fPv
        rw [show ((pend' ++ [p]).map codeP).length = pend'.length + 1 from by simp] at c1
        have lPv : Pv < wr.heap.size := by have := hO.sz; omega
        have lPb : w.heap.size < wr.heap.size := by have := hO.sz; have := hL.q1; omega
        have lbb : bb < wr.heap.size := by omega
        have hpl : pend'.length ≤ 300000 := by simp at hlen; omega
        have hbpos : 0 < bud := by omega
        obtain ⟨n, hn⟩ : ∃ n, pend'.length = n := ⟨_, rfl⟩
        rw [hn] at c1 ck hpl
        have Hn0 : Hid (pend'.length = n) := hn
        clear hn
        have hpe := fun W => pairEntries_any p.1 p.2 (by have := hpin.1; omega) (by have := hpin.2; omega) W
        simp only [entV] at hpe
        have Hpe : Hid _ := hpe
        clear hpe
        go_wp2_with fail
        refine (Hpe.out _).mono ?_
        rintro e w3 ⟨rfl, x3, hw3⟩
        have hO3 := hO.aft hL x3
        have ownX3 := own_aft ownX x3
        have ownY3 := own_aft ownY x3
        rw [← hw3] at hO3 ownX3 ownY3
        clear hw3 Hpe hO ownX ownY c1 c2 c3 f1 ck lPv lPb lbb hkl
        clear wr
        have c1 := hO3.cPv
        rw [show ((pend' ++ [p]).map codeP).length = pend'.length + 1 from by simp] at c1
        rw [Hn0.out] at c1
        have f1 := hO3.fPv
        have lPv : Pv < w3.heap.size := by have := hO3.sz; omega
        have hcap := hO3.capl
        rw [show ((pend' ++ [p]).map codeP).length = pend'.length + 1 from by simp, Hn0.out] at hcap
        go_wp2_with fail
        have hM4 : Mid w (((w3.setCell ⟨Pv, 0, none⟩ (.slice (some ⟨k, 0, none⟩) n cap)).alloc (.cells #[.int .i64 ((p.1 : Int) / 2), .bool (fl p.1)] 50)).alloc (.cells #[.int .i64 ((p.2 : Int) / 2), .bool (fl p.2)] 50))
            bb w.heap.size Sv Pv S Bk (Pv + 1) M N (D ++ [p]) pend' bud w3.heap.size (w3.heap.size + 1) p.1 p.2 (.slice aX nX cX) (.slice aY nY cY) nX nY xsX xsY := by
          rw [← Hn0.out]
          exact Mid.start hL hO3 hsn ownX3 ownY3 hap
        clear hO3 ownX3 ownY3 hap hcap c1 f1 lPv hsn
        generalize w3.heap.size = x12 at *
        generalize x12 + 1 = x13 at *
        generalize (((w3.setCell ⟨Pv, 0, none⟩ (.slice (some ⟨k, 0, none⟩) n cap)).alloc (.cells #[.int .i64 ((p.1 : Int) / 2), .bool (fl p.1)] 50)).alloc (.cells #[.int .i64 ((p.2 : Int) / 2), .bool (fl p.2)] 50)) = w4 at *
        clear w3
        obtain ⟨b0, b1⟩ := hM4.bx.cells
        obtain ⟨b2, b3⟩ := hM4.by_.cells
        have g4 := hg.later hM4.gr
        have h4 := hh.later hM4.gr
        have gc := g4.cs
        have hc := h4.cs
        by_cases hf : fin M N p
        · have t1 : (((p.1 : Int) / 2) == (M.n : Int)) = true := beq_iff_eq.2 (by have := hf.1; omega)
          have t2 : (((p.2 : Int) / 2) == (N.n : Int)) = true := beq_iff_eq.2 (by have := hf.2; omega)
          have Hy : Hid (Meet M N) := hD.yes hf
          go_quiet (fail)
          go_wp2_with fail
          go_ret
          exact ⟨true, rfl, ⟨fun _ => Hy.out, fun _ => rfl⟩, grown_drewN hM4.gr _, bud, by omega, hM4.cbb⟩
        · go_cut [81] (fun s wx => s = .bool false ∧ ∃ nq, wx = aft w4 ⟨[], nq⟩)
          case first =>
            by_cases t : p.1 / 2 = M.n
            · have t1 : (((p.1 : Int) / 2) == (M.n : Int)) = true := beq_iff_eq.2 (by omega)
              have t2 : (((p.2 : Int) / 2) == (N.n : Int)) = false := beq_eq_false_iff_ne.2 (by have h2 : ¬ p.2 / 2 = N.n := fun e => hf ⟨t, e⟩; omega)
              go_quiet (fail)
              go_wp2_with fail
              go_meet
              exact ⟨rfl, nq, rfl⟩
            · have t1 : (((p.1 : Int) / 2) == (M.n : Int)) = false := beq_eq_false_iff_ne.2 (by omega)
              go_quiet (fail)
              go_wp2_with fail
              go_meet
              exact ⟨rfl, nq, rfl⟩
          case rest =>
            obtain ⟨rfl, nq, rfl⟩ := hcut
            have hM5 := hM4.aft hL ⟨[], nq⟩
            clear hM4 b0 b1 b2 b3 g4 h4 gc hc
            generalize aft w4 ⟨[], nq⟩ = w5 at *
            obtain ⟨b0, b1⟩ := hM5.bx.cells
            have hM5d : Mid w w5.drew _ _ _ _ _ _ _ _ _ _ _ _ _ _ _ _ _ _ _ _ _ _ := hM5.aft hL ⟨[], 1⟩
            have g5 := hg.later hM5d.gr
            have hps := passes_any w5.drew w.heap.size bb g M so co sc cc g5 hM5d.gr.size hM p.1 hpin.1 (Pv + 1) aX cX (row_none hM5d.rx) hM5d.os.sz
            simp only [entV] at hps
            have Hps : Hid _ := hps
            clear hps
            go_wp2_with fail
            go_region_law (go_simp; refine Calls.mono Hps.out ?_; rintro e w6 ⟨aX', cX', rfl, oX, gX, lX⟩)
            have hM6 := hM5d.passX hL oX gX lX
            clear Hps oX gX lX hM5 hM5d b0 b1 g5
            go_wp2_with fail
            obtain ⟨b2, b3⟩ := hM6.by_.cells
            have hM6d : Mid w w6.drew _ _ _ _ _ _ _ _ _ _ _ _ _ _ _ _ _ _ _ _ _ _ := hM6.aft hL ⟨[], 1⟩
            have h6 := hh.later hM6d.gr
            have hps := passes_any w6.drew w.heap.size bb h N so' co' sc' cc' h6 hM6d.gr.size hN p.2 hpin.2 (Pv + 1) aY cY (row_none hM6d.ry) hM6d.os.sz
            simp only [entV] at hps
            have Hps : Hid _ := hps
            clear hps
            go_region_law (go_simp; refine Calls.mono Hps.out ?_; rintro e w7 ⟨aY', cY', rfl, oY, gY, lY⟩)
            have hM7 := hM6d.passY hL oY gY lY
            clear Hps oY gY lY hM6 hM6d b2 b3 h6
            go_wp2_with fail
            have toXin : ∀ z ∈ M.to p.1, inR M N (z, p.2) := fun z hz => ⟨to_lt hpin.1 hz, hpin.2⟩
            have toYin : ∀ z ∈ N.to p.2, inR M N (p.1, z) := fun z hz => ⟨hpin.1, to_lt hpin.2 hz⟩
            have toXl := to_length M p.1
            have toYl := to_length N p.2
            have hDl : D.length ≤ 266256 := by omega
            have HtX : Hid _ := toXin
            have HtY : Hid _ := toYin
            clear toXin toYin
            obtain ⟨lX, hlX⟩ : ∃ l, M.to p.1 = l := ⟨_, rfl⟩
            obtain ⟨lY, hlY⟩ : ∃ l, N.to p.2 = l := ⟨_, rfl⟩
            rw [hlX] at hM7 toXl HtX ⊢
            rw [hlY] at hM7 toYl HtY ⊢
            have HlX : Hid (M.to p.1 = lX) := hlX
            have HlY : Hid (N.to p.2 = lY) := hlY
            clear hlX hlY
            have hR2 : L2R w w7 bb w.heap.size Sv Pv S Bk (Pv + 1) M N (D ++ [p]) pend' bud x12 x13 p.1 p.2 (.slice aX' lX.length cX') (.slice aY' lY.length cY') lX.length lY.length (ents lX) (ents lY) lX lX.length (.int .i64 0) :=
              ⟨0, Nat.zero_le _, by simp, rfl, by simpa [pushes] using hM7⟩
            clear hM7
            go_loopg [100] lX.length (fun gn i wr => L2R w wr bb w.heap.size Sv Pv S Bk (Pv + 1) M N (D ++ [p]) pend' bud x12 x13 p.1 p.2 (.slice aX' lX.length cX') (.slice aY' lY.length cY') lX.length lY.length (ents lX) (ents lY) lX gn i)
            case atStart => exact hR2
            case round =>
              clear hR2 w7
              obtain ⟨j, hj, hgj, rfl, hMj⟩ := hrel
              have Hgj : Hid (gk = lX.length - j) := hgj
              clear hgj
              by_cases hlt : j < lX.length
              · obtain ⟨z, hz⟩ : ∃ z, lX[j]? = some z := ⟨_, List.getElem?_eq_getElem hlt⟩
                obtain ⟨gx, rfl, lgx, e0, e1⟩ := row_at hMj.rx j z hz
                obtain ⟨b2, b3⟩ := hMj.by_.cells
                have lx13 := hMj.by_.lt
                have hMz := hMj.aft hL ⟨[.cells #[.int .i64 ((z : Int) / 2), .bool (fl z)] 50], 0⟩
                have hzm : z ∈ lX := List.mem_of_getElem? hz
                have hpl2 := hD.midlen ((lX.take j).map fun x => (x, p.2)) (fun q hq => by
                  obtain ⟨x, hx, rfl⟩ := List.mem_map.1 hq
                  exact HtX.out x (List.mem_of_mem_take hx))
                have hrs := reachS w _ bb w.heap.size Sv Pv S Bk (Pv + 1) M N (D ++ [p]) _ (bud - j) hL hM hN hMz.os (by omega) (by omega) (by omega) (z, p.2) (HtX.out z hzm)
                simp only [entV] at hrs
                have Hrs : Hid _ := hrs
                have Hz : Hid (lX[j]? = some z) := hz
                clear hrs hz
                go_wp2_with fail
                refine Calls.mono Hrs.out ?_
                rintro e w8 ⟨rfl, hO8, hR8⟩
                have hM8 := hMz.reach hL hO8 hR8
                clear Hrs hO8 hR8 hMz hMj e0 e1 b2 b3
                go_wp2_with fail
                go_roundg (lX.length - (j + 1))
                case measure => rw [Hgj.out]; omega
                case rel =>
                  refine ⟨j + 1, by omega, rfl, by go_num, ?_⟩
                  have et : lX.take (j + 1) = lX.take j ++ [z] := by rw [List.take_add_one, Hz.out]; rfl
                  rw [et, List.map_append, List.map_cons, List.map_nil, pushes_snoc, show bud - ((j + 1 : Nat) : Int) = bud - (j : Int) - 1 from by omega]
                  exact hM8
              · obtain rfl : j = lX.length := by omega
                rw [List.take_length] at hMj
                clear Hgj
                have hRM : ∃ pend1 bud1, pend1 = pushes (D ++ [p]) pend' (lX.map fun x => (x, p.2)) ∧ bud1 = bud - (lX.length : Int) ∧ Mid w wr bb w.heap.size Sv Pv S Bk (Pv + 1) M N (D ++ [p]) pend1 bud1 x12 x13 p.1 p.2 (.slice aX' lX.length cX') (.slice aY' lY.length cY') lX.length lY.length (ents lX) (ents lY) := ⟨_, _, rfl, rfl, hMj⟩
                obtain ⟨pend1, bud1, hpend1, hbud1, hM1⟩ := hRM
                have Hpend1 : Hid _ := hpend1
                have hb3 : 0 < bud1 - 2 := by omega
                have hb4 : bud1 ≤ 1073741824 := by omega
                have Hbud1 : Hid _ := hbud1
                clear hpend1 hbud1 hMj
                have hR3 : L3R w wr bb w.heap.size Sv Pv S Bk (Pv + 1) M N (D ++ [p]) pend1 bud1 x12 x13 p.1 p.2 (.slice aX' lX.length cX') (.slice aY' lY.length cY') lX.length lY.length (ents lX) (ents lY) lY lY.length (.int .i64 0) :=
                  ⟨0, Nat.zero_le _, by simp, rfl, by simpa [pushes] using hM1⟩
                clear hM1
                go_wp2_with fail
                go_loopg [111] lY.length (fun gn i wr => L3R w wr bb w.heap.size Sv Pv S Bk (Pv + 1) M N (D ++ [p]) pend1 bud1 x12 x13 p.1 p.2 (.slice aX' lX.length cX') (.slice aY' lY.length cY') lX.length lY.length (ents lX) (ents lY) lY gn i)
                case atStart => exact hR3
                case round =>
                  clear hR3
                  obtain ⟨j, hj, hgj, rfl, hMj⟩ := hrel
                  have Hgj : Hid (gk = lY.length - j) := hgj
                  clear hgj
                  by_cases hlt : j < lY.length
                  · obtain ⟨z, hz⟩ : ∃ z, lY[j]? = some z := ⟨_, List.getElem?_eq_getElem hlt⟩
                    obtain ⟨gx, rfl, lgx, e0, e1⟩ := row_at hMj.ry j z hz
                    obtain ⟨b2, b3⟩ := hMj.bx.cells
                    have lx12 := hMj.bx.lt
                    have hMz := hMj.aft hL ⟨[.cells #[.int .i64 ((z : Int) / 2), .bool (fl z)] 50], 0⟩
                    have hzm : z ∈ lY := List.mem_of_getElem? hz
                    have hpl2 := hD.midlen ((lX.map fun x => (x, p.2)) ++ (lY.take j).map fun y => (p.1, y)) (fun q hq => by
                      rcases List.mem_append.1 hq with hq | hq
                      · obtain ⟨x, hx, rfl⟩ := List.mem_map.1 hq
                        exact HtX.out x hx
                      · obtain ⟨x, hx, rfl⟩ := List.mem_map.1 hq
                        exact HtY.out x (List.mem_of_mem_take hx))
                    rw [pushes_append, ← Hpend1.out] at hpl2
                    have hrs := reachS w _ bb w.heap.size Sv Pv S Bk (Pv + 1) M N (D ++ [p]) _ (bud1 - j) hL hM hN hMz.os (by omega) (by omega) (by omega) (p.1, z) (HtY.out z hzm)
                    simp only [entV] at hrs
                    have Hrs : Hid _ := hrs
                    have Hz : Hid (lY[j]? = some z) := hz
                    clear hrs hz
                    go_wp2_with fail
                    refine Calls.mono Hrs.out ?_
                    rintro e w8 ⟨rfl, hO8, hR8⟩
                    have hM8 := hMz.reach hL hO8 hR8
                    clear Hrs hO8 hR8 hMz hMj e0 e1 b2 b3
                    go_wp2_with fail
                    go_roundg (lY.length - (j + 1))
                    case measure => rw [Hgj.out]; omega
                    case rel =>
                      refine ⟨j + 1, by omega, rfl, by go_num, ?_⟩
                      have et : lY.take (j + 1) = lY.take j ++ [z] := by rw [List.take_add_one, Hz.out]; rfl
                      rw [et, List.map_append, List.map_cons, List.map_nil, pushes_snoc, show bud1 - ((j + 1 : Nat) : Int) = bud1 - (j : Int) - 1 from by omega]
                      exact hM8
                  · obtain rfl : j = lY.length := by omega
                    rw [List.take_length] at hMj
                    clear Hgj
                    have hRM : ∃ pend2 bud2, pend2 = pushes (D ++ [p]) pend1 (lY.map fun y => (p.1, y)) ∧ bud2 = bud1 - (lY.length : Int) ∧ Mid w wr bb w.heap.size Sv Pv S Bk (Pv + 1) M N (D ++ [p]) pend2 bud2 x12 x13 p.1 p.2 (.slice aX' lX.length cX') (.slice aY' lY.length cY') lX.length lY.length (ents lX) (ents lY) := ⟨_, _, rfl, rfl, hMj⟩
                    obtain ⟨pend2, bud2, hpend2, hbud2, hM2⟩ := hRM
                    have hb5 : 0 < bud2 := by omega
                    have hb6 : bud2 ≤ 1073741824 := by omega
                    have Hpend2 : Hid (pend2 = pushes (D ++ [p]) pend' ((lX.map fun x => (x, p.2)) ++ lY.map fun y => (p.1, y))) := by show _ = _; rw [pushes_append, ← Hpend1.out]; exact hpend2
                    have Hbud2 : Hid (bud2 = bud - (lX.length : Int) - (lY.length : Int)) := by show _ = _; rw [hbud2, Hbud1.out]
                    clear hpend2 hbud2 hMj Hpend1 Hbud1 hb3 hb4
                    have hsc : succs M N p = ((lX.map fun x => (x, p.2)) ++ lY.map fun y => (p.1, y)) ++ both M N p.1 p.2 := by unfold succs; rw [HlX.out, HlY.out]
                    have Hsc : Hid _ := hsc
                    clear hsc
                    have hDt : D.length + 1 ≤ total M N := by simp at hlen; omega
                    cases hbt : (M.tk p.1 && N.tk p.2 && meetB (M.set (p.1 / 2)) (N.set (p.2 / 2)))
                    · have Hfin : Hid (LoopR w wr bb w.heap.size Sv Pv S Bk (Pv + 1) M N (total M N - (D.length + 1)) (.slice aX' lX.length cX') (.slice aY' lY.length cY')) := by
                        refine LoopR.next hD hf hM2 ?_ ?_ hb1 hb2
                        · rw [Hsc.out, both_nil hbt, List.append_nil]; exact Hpend2.out
                        · rw [Hsc.out, both_nil hbt, List.append_nil, Hbud2.out]; simp; omega
                      cases tX : M.tk p.1
                      · clear hM2 hbt
                        go_wp2_with fail
                        go_roundg (total M N - (D.length + 1))
                        case measure => rw [Hgk.out]; omega
                        case rel => exact Hfin.out
                      · cases tY : N.tk p.2
                        · clear hM2 hbt
                          go_wp2_with fail
                          go_roundg (total M N - (D.length + 1))
                          case measure => rw [Hgk.out]; omega
                          case rel => exact Hfin.out
                        · have hm : meetB (M.set (p.1 / 2)) (N.set (p.2 / 2)) = false := by rw [tX, tY] at hbt; simpa using hbt
                          have Hfin : Hid (∀ w', Mid w w' bb w.heap.size Sv Pv S Bk (Pv + 1) M N (D ++ [p]) pend2 bud2 x12 x13 p.1 p.2 (.slice aX' lX.length cX') (.slice aY' lY.length cY') lX.length lY.length (ents lX) (ents lY) → LoopR w w' bb w.heap.size Sv Pv S Bk (Pv + 1) M N (total M N - (D.length + 1)) (.slice aX' lX.length cX') (.slice aY' lY.length cY')) := by
                            intro w' hM2
                            refine LoopR.next hD hf hM2 ?_ ?_ hb1 hb2
                            · rw [Hsc.out, both_nil hbt, List.append_nil]; exact Hpend2.out
                            · rw [Hsc.out, both_nil hbt, List.append_nil, Hbud2.out]; simp; omega
                          have g5 := hg.later hM2.gr
                          have h5 := hh.later hM2.gr
                          clear hbt
                          go_wp2_with fail
                          refine region25 _ _ _ w.heap.size bb g h x12 x13 p.1 p.2 M N so co so' co' sc cc sc' cc' hM hN g5 h5 hM2.gr.size ?_ ?_ ?_ ?_ ?_ hM2.bx hM2.by_ (tk_lt hpin.1 tX) (tk_lt hpin.2 tY) ?_
                          · exact (by decide : 132 ≤ 143)
                          · rfl
                          · rfl
                          · rfl
                          · rfl
                          intro a w9 c d hA hB9 e20 e21 s1 s2
                          have ha := hA.fill _ _ (by simp [ds25])
                          simp only [ds25, List.foldl_cons, List.foldl_nil, e20, e21] at ha
                          generalize a.eval (.tmp 124) = v124 at ha
                          generalize a.eval (.tmp 125) = v125 at ha
                          generalize a.eval (.tmp 126) = v126 at ha
                          generalize a.eval (.tmp 127) = v127 at ha
                          generalize a.eval (.tmp 128) = v128 at ha
                          generalize a.eval (.tmp 129) = v129 at ha
                          generalize a.eval (.tmp 130) = v130 at ha
                          generalize a.eval (.tmp 131) = v131 at ha
                          clear hA e20 e21
                          have hM9 := hM2.below hL hB9
                          clear hM2 hB9 g5 h5
                          subst ha
                          go_simp
                          have hme := meets_any c d _ _ w9 s1 s2 (set_bd hM (tk_lt hpin.1 tX)).1 (set_bd hM (tk_lt hpin.1 tX)).2 (set_bd hN (tk_lt hpin.2 tY)).1 (set_bd hN (tk_lt hpin.2 tY)).2
                          rw [hm] at hme
                          have Hme : Hid _ := hme
                          clear hme s1 s2
                          go_wp2_with fail
                          refine Calls.mono Hme.out ?_
                          rintro e w10 ⟨rfl, n10, rfl⟩
                          have hM10 : Mid w (w9.drewN n10) _ _ _ _ _ _ _ _ _ _ _ _ _ _ _ _ _ _ _ _ _ _ := hM9.aft hL ⟨[], n10⟩
                          clear Hme hM9
                          generalize w9.drewN n10 = w10 at *
                          clear w9
                          go_wp2_with fail
                          go_roundg (total M N - (D.length + 1))
                          case measure => rw [Hgk.out]; omega
                          case rel => exact Hfin.out _ hM10
                    · have tX : M.tk p.1 = true := by revert hbt; cases M.tk p.1 <;> simp
                      have tY : N.tk p.2 = true := by revert hbt; cases N.tk p.2 <;> simp
                      have hm : meetB (M.set (p.1 / 2)) (N.set (p.2 / 2)) = true := by rw [tX, tY] at hbt; simpa using hbt
                      have hqin : inR M N (M.taken (p.1 / 2), N.taken (p.2 / 2)) := ⟨taken_lt (tk_lt hpin.1 tX), taken_lt (tk_lt hpin.2 tY)⟩
                      have Hfin : Hid (∀ w', Mid w w' bb w.heap.size Sv Pv S Bk (Pv + 1) M N (D ++ [p]) (push1 (D ++ [p]) pend2 (M.taken (p.1 / 2), N.taken (p.2 / 2))) (bud2 - 1) x12 x13 p.1 p.2 (.slice aX' lX.length cX') (.slice aY' lY.length cY') lX.length lY.length (ents lX) (ents lY) → LoopR w w' bb w.heap.size Sv Pv S Bk (Pv + 1) M N (total M N - (D.length + 1)) (.slice aX' lX.length cX') (.slice aY' lY.length cY')) := by
                        intro w' hM2
                        refine LoopR.next hD hf hM2 ?_ ?_ hb1 hb2
                        · rw [Hsc.out, both_one tX tY hm, pushes_snoc, ← Hpend2.out]
                        · rw [Hsc.out, both_one tX tY hm, Hbud2.out]; simp; omega
                      have hpl3 := hD.midlen ((lX.map fun x => (x, p.2)) ++ lY.map fun y => (p.1, y)) (fun q hq => by
                        rcases List.mem_append.1 hq with hq | hq
                        · obtain ⟨x, hx, rfl⟩ := List.mem_map.1 hq
                          exact HtX.out x hx
                        · obtain ⟨x, hx, rfl⟩ := List.mem_map.1 hq
                          exact HtY.out x hx)
                      rw [← Hpend2.out] at hpl3
                      have g5 := hg.later hM2.gr
                      have h5 := hh.later hM2.gr
                      clear hbt
                      go_wp2_with fail
                      refine region25 _ _ _ w.heap.size bb g h x12 x13 p.1 p.2 M N so co so' co' sc cc sc' cc' hM hN g5 h5 hM2.gr.size ?_ ?_ ?_ ?_ ?_ hM2.bx hM2.by_ (tk_lt hpin.1 tX) (tk_lt hpin.2 tY) ?_
                      · exact (by decide : 132 ≤ 143)
                      · rfl
                      · rfl
                      · rfl
                      · rfl
                      intro a w9 c d hA hB9 e20 e21 s1 s2
                      have ha := hA.fill _ _ (by simp [ds25])
                      simp only [ds25, List.foldl_cons, List.foldl_nil, e20, e21] at ha
                      generalize a.eval (.tmp 124) = v124 at ha
                      generalize a.eval (.tmp 125) = v125 at ha
                      generalize a.eval (.tmp 126) = v126 at ha
                      generalize a.eval (.tmp 127) = v127 at ha
                      generalize a.eval (.tmp 128) = v128 at ha
                      generalize a.eval (.tmp 129) = v129 at ha
                      generalize a.eval (.tmp 130) = v130 at ha
                      generalize a.eval (.tmp 131) = v131 at ha
                      clear hA e20 e21
                      have hM9 := hM2.below hL hB9
                      clear hM2 hB9 g5 h5
                      subst ha
                      go_simp
                      have hme := meets_any c d _ _ w9 s1 s2 (set_bd hM (tk_lt hpin.1 tX)).1 (set_bd hM (tk_lt hpin.1 tX)).2 (set_bd hN (tk_lt hpin.2 tY)).1 (set_bd hN (tk_lt hpin.2 tY)).2
                      rw [hm] at hme
                      have Hme : Hid _ := hme
                      clear hme s1 s2
                      go_wp2_with fail
                      refine Calls.mono Hme.out ?_
                      rintro e w10 ⟨rfl, n10, rfl⟩
                      have hM10 : Mid w (w9.drewN n10) _ _ _ _ _ _ _ _ _ _ _ _ _ _ _ _ _ _ _ _ _ _ := hM9.aft hL ⟨[], n10⟩
                      clear Hme hM9
                      generalize w9.drewN n10 = w10 at *
                      clear w9
                      have hMd : Mid w w10.drew _ _ _ _ _ _ _ _ _ _ _ _ _ _ _ _ _ _ _ _ _ _ := hM10.aft hL ⟨[], 1⟩
                      have g11 := hg.later hMd.gr
                      have h11 := hh.later hMd.gr
                      have hsz11 := hMd.gr.size
                      have hta := taken_any w10.drew w.heap.size bb g M so co sc cc g11 hsz11 hM (p.1 / 2) (tk_lt hpin.1 tX)
                      have htb := fun x => taken_any (aft w10.drew x) w.heap.size bb h N so' co' sc' cc' (h11.aft hsz11 x) (by have := (aft_below w10.drew x).size; omega) hN (p.2 / 2) (tk_lt hpin.2 tY)
                      have hre := fun x y => reachS w (aft (aft w10.drew x) y) bb w.heap.size Sv Pv S Bk (Pv + 1) M N (D ++ [p]) pend2 bud2 hL hM hN ((hMd.aft hL x).aft hL y).os (by omega) hb5 hb6 (M.taken (p.1 / 2), N.taken (p.2 / 2)) hqin
                      simp only [entV] at hta htb hre
                      have e1 : ((((p.1 / 2 : Nat)) : Int)) = (p.1 : Int) / 2 := by omega
                      have e2 : ((((p.2 / 2 : Nat)) : Int)) = (p.2 : Int) / 2 := by omega
                      have Hta : Hid (Calls Yba.prog 19 #[.pointer (some ⟨g, 0, none⟩), .int .i64 ((p.1 : Int) / 2)] w10.drew (fun e w' => e = .returned (.agg #[.int .i64 (((M.taken (p.1 / 2) : Nat) : Int) / 2), .bool (fl (M.taken (p.1 / 2)))]) ∧ ∃ x, w' = aft w10.drew x)) := by
                        rw [← e1]; exact hta
                      have Htb : Hid (∀ x, Calls Yba.prog 19 #[.pointer (some ⟨h, 0, none⟩), .int .i64 ((p.2 : Int) / 2)] (aft w10.drew x) (fun e w' => e = .returned (.agg #[.int .i64 (((N.taken (p.2 / 2) : Nat) : Int) / 2), .bool (fl (N.taken (p.2 / 2)))]) ∧ ∃ y, w' = aft (aft w10.drew x) y)) := by
                        rw [← e2]; exact htb
                      have Hre : Hid _ := hre
                      clear hta htb hre g11 h11 e1 e2
                      obtain ⟨b0, b1⟩ := hM10.bx.cells
                      obtain ⟨b2, b3⟩ := hM10.by_.cells
                      go_wp2_with fail
                      go_region_law (go_simp; first | (go_at_call_of 19 (Value.pointer (some ⟨g, 0, none⟩)); refine Calls.mono Hta.out ?_; rintro e w11 ⟨rfl, x1, rfl⟩; have hz := aft_cell (cell_dr b2) x1) | (go_at_call_of 19 (Value.pointer (some ⟨h, 0, none⟩)); refine Calls.mono (Htb.out _) ?_; rintro e w12 ⟨rfl, x2, rfl⟩) | (go_at_call 12; refine Calls.mono (Hre.out _ _) ?_; rintro e w13 ⟨rfl, hO13, hR13⟩))
                      all_goals
                        have hM13 := ((hMd.aft hL x1).aft hL x2).reach hL hO13 hR13
                        go_wp2_with fail
                        go_roundg (total M N - (D.length + 1))
                        case measure => rw [Hgk.out]; omega
                        case rel => exact Hfin.out _ hM13
end Go.Proofs.Ybulkbeeu
