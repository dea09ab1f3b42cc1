/- The law. -/
import Derived.Test.YbulkbeboLaw5
namespace Go.Proofs.Ybulkbebo
open Go.RowKit
attribute [local go_sem] neq_func75 neq_func76 neq_nil76 as45_45 as53_45 as63_45 as72_45 as45_63 as53_63 as63_63 as72_63 as45_72 as53_72 as63_72 as72_72 as45_95 as53_95 as63_95 as72_95 eql58_none eql58_some eql66_none eql66_some mkMap93 store_map
set_option linter.unusedSimpArgs false
set_option linter.unusedVariables false

/-- The argument: n steps of four bytes. -/
structure InAt (w : World) (a : Option Addr) (n : Nat) (z : Zs) : Prop where
  ex : ∀ i, i < n → ∃ xb xo, a = some ⟨xb, xo, none⟩ ∧ w.cell? ⟨xb, xo + i * 4, none⟩ = some (.int .u8 (z.k i : Int)) ∧ w.cell? ⟨xb, xo + i * 4 + 1, none⟩ = some (.int .u8 (z.a i : Int)) ∧ w.cell? ⟨xb, xo + i * 4 + 2, none⟩ = some (.int .u8 (z.b i : Int)) ∧ w.cell? ⟨xb, xo + i * 4 + 3, none⟩ = some (.int .u8 (z.c i : Int))
  bd : ∀ i, i < n → z.k i < 256 ∧ z.a i < 256 ∧ z.b i < 256 ∧ z.c i < 256

def LwR (B : Bk) (z : Zs) (use : Bool) (n : Nat) (w0 : World) (g : Nat) (vi : Value) (wr : World) : Prop :=
  ∃ i tv has kv, i ≤ n ∧ g = n - i ∧ vi = .int .i64 (i : Int) ∧ BIn B z use n i w0 wr tv has kv

set_option maxRecDepth 100000 in
set_option maxHeartbeats 100000000 in
theorem law5 (w : World) (a : Option Addr) (n cap : Nat) (use : Bool) (z : Zs) (hin : InAt w a n z) :
    Calls Yba.prog 5 #[.slice a n cap, .bool use] w (fun e w' => e = .returned (.bool true) ∧ Grw None' w w') := by
  by_cases h0 : n = 0
  · subst h0
    clear hin
    go_enter Yba.func5, Yba.ntmps5
    go_wp2_with fail
    go_ret
    exact ⟨rfl, Grw.refl _ _⟩
  by_cases h1 : 256 < n
  · have c1 : ((n : Int) == 0) = false := by simp; omega
    have c2 : (256 : Int) < (n : Int) := by omega
    have c3 : decide ((256 : Int) < (n : Int)) = true := by simp; omega
    clear hin h0 h1
    go_enter Yba.func5, Yba.ntmps5
    go_wp2_with fail
    go_ret
    exact ⟨rfl, Grw.refl _ _⟩
  have m58 := mkr58 n (by omega)
  have m23 := mkr23 n (by omega)
  have m59 := mkr59 n (by omega)
  have m60 := mkr60 n (by omega)
  have c1 : ((n : Int) == 0) = false := by simp; omega
  have c2 : ¬ ((256 : Int) < (n : Int)) := by omega
  have c3 : decide ((256 : Int) < (n : Int)) = false := by simp; omega
  have Hn : Hid (n ≠ 0 ∧ n ≤ 256) := ⟨h0, by omega⟩
  clear h0 h1
  have H0 : Hid _ := bin0 w n z use
  have Hin : Hid (InAt w a n z) := hin
  clear hin
  go_enter Yba.func5, Yba.ntmps5
  go_wp2_with fail
  obtain ⟨B, hB⟩ : ∃ B, B = lawB w.heap.size := ⟨_, rfl⟩
  have E14 : w.heap.size + 1 + 1 + 1 + 1 + 1 + 1 + 1 + 1 + 1 + 1 + 1 + 1 + 1 + 1 = B.hb := by rw [hB]; rfl
  have E13 : w.heap.size + 1 + 1 + 1 + 1 + 1 + 1 + 1 + 1 + 1 + 1 + 1 + 1 + 1 = B.cb := by rw [hB]; rfl
  have E12 : w.heap.size + 1 + 1 + 1 + 1 + 1 + 1 + 1 + 1 + 1 + 1 + 1 + 1 = B.pb := by rw [hB]; rfl
  have E11 : w.heap.size + 1 + 1 + 1 + 1 + 1 + 1 + 1 + 1 + 1 + 1 + 1 = B.kb := by rw [hB]; rfl
  have E10 : w.heap.size + 1 + 1 + 1 + 1 + 1 + 1 + 1 + 1 + 1 + 1 = B.tb := by rw [hB]; rfl
  have E9 : w.heap.size + 1 + 1 + 1 + 1 + 1 + 1 + 1 + 1 + 1 = B.gv := by rw [hB]; rfl
  have E8 : w.heap.size + 1 + 1 + 1 + 1 + 1 + 1 + 1 + 1 = B.gr := by rw [hB]; rfl
  have E4 : w.heap.size + 1 + 1 + 1 + 1 = B.pv := by rw [hB]; rfl
  have E3 : w.heap.size + 1 + 1 + 1 = B.pr := by rw [hB]; rfl
  rw [E14, E13, E12, E11, E10, E9, E4]
  have HB : Hid (B = lawB w.heap.size) := hB
  have Bo : Hid (BkOK B) := by rw [hB]; exact lawB_ok _
  clear hB E14 E13 E12 E11 E10 E9 E8 E4 E3
  go_loopg [13] n (fun g vi wr => LwR B z use n w g vi wr)
  case atStart =>
    have hB := HB.out
    subst hB
    exact ⟨0, _, _, _, Nat.zero_le _, by simp, rfl, H0.out⟩
  case round =>
    clear H0
    obtain ⟨i, tv, has, kv, hi, hg, rfl, hb⟩ := hrel
    have Hg : Hid _ := hg
    have Hb : Hid (BIn B z use n i w wr tv has kv) := hb
    clear hg hb
    have hn := Hn.out.2
    by_cases hlt : i < n
    · obtain ⟨xb, xo, rfl, x0, x1, x2, x3⟩ := Hin.out.ex i hlt
      obtain ⟨zb0, zb1, zb2, zb3⟩ := Hin.out.bd i hlt
      have y0 := Hb.out.g0.cellOf x0 (fun e => e)
      have y1 := Hb.out.g0.cellOf x1 (fun e => e)
      have y2 := Hb.out.g0.cellOf x2 (fun e => e)
      have y3 := Hb.out.g0.cellOf x3 (fun e => e)
      clear m58 m23 m59 m60
      have bt := Hb.out.rt
      have bk := Hb.out.rk
      have bp := Hb.out.rp
      have bh := Hb.out.rh
      have bc := Hb.out.rc
      have t1 := bt.cell hlt
      have t2 := bt.frozen i
      have k1 := bk.cell hlt
      have k2 := bk.frozen i
      have p1 := bp.cell hlt
      have p2 := bp.frozen i
      have h1 := bh.cell hlt
      have h2 := bh.frozen i
      have e1 := bc.cell hlt
      have e2 := bc.frozen i
      have lt1 := bt.lt
      have lt2 := bk.lt
      have lt3 := bp.lt
      have lt4 := bh.lt
      have lt5 := bc.lt
      simp only [Nat.lt_irrefl, if_false, false_and] at t1 t2 k1 k2 p1 p2 h1 h2 e1 e2
      have lt6 : B.pv < wr.heap.size := World.block_lt_of_cell? _ _ Hb.out.dag.pool.c
      have xlt : xb < wr.heap.size := World.block_lt_of_cell? _ _ y0
      have xS : xb < B.S := by
        have := World.block_lt_of_cell? _ _ x0
        have := Hb.out.s0
        simp only at *
        omega
      have NE : Hid (B.tb ≠ B.kb ∧ B.tb ≠ B.pb ∧ B.tb ≠ B.cb ∧ B.tb ≠ B.hb ∧ B.kb ≠ B.pb ∧ B.kb ≠ B.cb ∧ B.kb ≠ B.hb ∧ B.pb ≠ B.cb ∧ B.pb ≠ B.hb ∧ B.cb ≠ B.hb) := by
        have b1 := Bo.out.tb; have b2 := Bo.out.kb; have b3 := Bo.out.pb; have b4 := Bo.out.cb; have b5 := Bo.out.hb
        refine ⟨?_, ?_, ?_, ?_, ?_, ?_, ?_, ?_, ?_, ?_⟩ <;> omega
      obtain ⟨d1, d2, d3, d4, d5, d6, d7, d8, d9, d10⟩ := NE.out
      have Bt : Hid _ := bt
      have Bk' : Hid _ := bk
      have Bp : Hid _ := bp
      have Bh : Hid _ := bh
      have Bc : Hid _ := bc
      clear bt bk bp bh bc
      have hzi : kindZ z i = if i = 0 ∧ 2 ≤ z.k i % 4 then 0 else z.k i % 4 := rfl
      have Hzi : Hid _ := hzi
      clear hzi
      clear x0 x1 x2 x3
      have hinI : (i : Int) < (n : Int) := by omega
      have hi0 : (0 : Int) ≤ (i : Int) := by omega
      rcases (by omega : z.k i % 4 = 0 ∨ z.k i % 4 = 1 ∨ (z.k i % 4 = 2 ∨ z.k i % 4 = 3)) with q | q | q
      · as_aux_lemma =>
          have q' : ((z.k i : Nat) : Int) % 4 = 0 := by omega
          have q3 : Int.tmod ((z.k i : Nat) : Int) 4 = 0 := by rw [Int.tmod_eq_emod_of_nonneg (by omega)]; exact q'
          have hk0 : kindZ z i = 0 := by rw [Hzi.out]; split <;> omega
          have Hk0 : Hid _ := hk0
          clear hk0
          generalize z.k i = zk at *
          generalize z.a i = za at *
          generalize z.b i = zb at *
          generalize z.c i = zc at *
          by_cases hz : i = 0
          · have hzb : ((i : Int) == 0) = true := by simp [hz]
            have Hz : Hid _ := hz
            clear hz
            go_wp2_with fail
            go_roundg (n - (i + 1))
            case measure => rw [Hg.out]; omega
            case rel => exact ⟨i + 1, _, _, _, by omega, rfl, by go_num, bin_kind0 Bo.out Hb.out hlt hn Hk0.out _ _⟩
          · have hzb : ((i : Int) == 0) = false := by simp; omega
            go_wp2_with fail
            go_roundg (n - (i + 1))
            case measure => rw [Hg.out]; omega
            case rel => exact ⟨i + 1, _, _, _, by omega, rfl, by go_num, bin_kind0 Bo.out Hb.out hlt hn Hk0.out _ _⟩
      · as_aux_lemma =>
          have hk1 : kindZ z i = 1 := by rw [Hzi.out]; split <;> omega
          have Hk1 : Hid _ := hk1
          clear hk1
          have q' : ((z.k i : Nat) : Int) % 4 = 1 := by omega
          have q3 : Int.tmod ((z.k i : Nat) : Int) 4 = 1 := by rw [Int.tmod_eq_emod_of_nonneg (by omega)]; exact q'
          have q5 : Int.tmod ((z.a i : Nat) : Int) 3 = ((pZ z i : Nat) : Int) := by rw [Int.tmod_eq_emod_of_nonneg (by omega)]; unfold pZ; omega
          have q6 : ((z.a i : Nat) : Int) % 3 = ((pZ z i : Nat) : Int) := by unfold pZ; omega
          have hpx : pZ z i < 3 := by unfold pZ; omega
          have pc := Hb.out.dag.pool.c
          have pe := Hb.out.dag.pool.e (pZ z i) hpx
          simp only [envB, fp] at pc pe
          have lt7 : B.pr < wr.heap.size := World.block_lt_of_cell? _ _ pe
          have PN : Hid (B.pr ≠ B.kb ∧ B.pr ≠ B.pb ∧ B.pv ≠ B.kb ∧ B.pv ≠ B.pb) := by
            have b1 := Bo.out.tb; have b2 := Bo.out.kb; have b3 := Bo.out.pb; have b4 := Bo.out.pr; have b5 := Bo.out.pv
            refine ⟨?_, ?_, ?_, ?_⟩ <;> omega
          obtain ⟨n1, n2, n3, n4⟩ := PN.out
          have n1' := n1.symm
          have n2' := n2.symm
          have n3' := n3.symm
          have n4' := n4.symm
          have hpxI : ((pZ z i : Nat) : Int) < 3 := by omega
          generalize hpz : pZ z i = px at *
          have Hpz : Hid _ := hpz
          clear hpz
          generalize z.k i = zk at *
          generalize z.a i = za at *
          generalize z.b i = zb at *
          generalize z.c i = zc at *
          by_cases hz : i = 0
          · have hzb : ((i : Int) == 0) = true := by simp [hz]
            have Hz : Hid _ := hz
            clear hz
            go_wp2_with fail
            go_region
            go_wp2_with fail
            go_roundg (n - (i + 1))
            case measure => rw [Hg.out]; omega
            case rel => exact ⟨i + 1, _, _, _, by omega, rfl, by go_num, bin_kind1 Bo.out Hb.out hlt hn Hk1.out px Hpz.out _⟩
          · have hzb : ((i : Int) == 0) = false := by simp; omega
            go_wp2_with fail
            go_region
            go_wp2_with fail
            go_roundg (n - (i + 1))
            case measure => rw [Hg.out]; omega
            case rel => exact ⟨i + 1, _, _, _, by omega, rfl, by go_num, bin_kind1 Bo.out Hb.out hlt hn Hk1.out px Hpz.out _⟩
      · by_cases hz : i = 0
        · as_aux_lemma =>
            have hk0 : kindZ z i = 0 := by rw [Hzi.out, if_pos ⟨hz, by omega⟩]
            have Hk0 : Hid _ := hk0
            clear hk0
            have q' : (2 : Int) ≤ ((z.k i : Nat) : Int) % 4 := by omega
            have q3 : Int.tmod ((z.k i : Nat) : Int) 4 = ((z.k i : Nat) : Int) % 4 := Int.tmod_eq_emod_of_nonneg (by omega)
            have hzb : ((i : Int) == 0) = true := by simp [hz]
            have Hz : Hid _ := hz
            clear hz q
            generalize z.k i = zk at *
            generalize z.a i = za at *
            generalize z.b i = zb at *
            generalize z.c i = zc at *
            go_wp2_with fail
            go_roundg (n - (i + 1))
            case measure => rw [Hg.out]; omega
            case rel => exact ⟨i + 1, _, _, _, by omega, rfl, by go_num, bin_kind0 Bo.out Hb.out hlt hn Hk0.out _ _⟩
        · have hzb : ((i : Int) == 0) = false := by simp; omega
          rcases q with q | q
          · as_aux_lemma =>
              have hk2 : kindZ z i = 2 := by rw [Hzi.out, if_neg (fun h => hz h.1)]; exact q
              have Hk2 : Hid _ := hk2
              have q' : ((z.k i : Nat) : Int) % 4 = 2 := by omega
              have q3 : Int.tmod ((z.k i : Nat) : Int) 4 = 2 := by rw [Int.tmod_eq_emod_of_nonneg (by omega)]; exact q'
              have q5 : Int.tmod ((z.b i : Nat) : Int) 3 = ((mZ z i : Nat) : Int) := by rw [Int.tmod_eq_emod_of_nonneg (by omega)]; unfold mZ; omega
              have q6 : ((z.b i : Nat) : Int) % 3 = ((mZ z i : Nat) : Int) := by unfold mZ; omega
              have hm3 : mZ z i < 3 := by unfold mZ; omega
              have Hkd : Hid (∀ j, kdZ z i j = (z.a i + j * (z.c i + 1)) % i) := fun j => by unfold kdZ; rw [if_pos hk2]
              have Hinit : Hid (∀ o, _ ∧ _) := fun o => k2_init Bo.out Hb.out o 2 49 (fun l => (tv (kdZ z i l)).val)
              clear hk2 q
              generalize hmz : mZ z i = m at *
              have Hmz : Hid _ := hmz
              clear hmz
              generalize z.k i = zk at *
              generalize z.a i = za at *
              generalize z.b i = zb at *
              generalize z.c i = zc at *
              go_wp2_with fail
              obtain ⟨hk2i, hgw1⟩ := Hinit.out (.cells #[.int .u8 (zk : Int), .int .u8 (za : Int), .int .u8 (zb : Int), .int .u8 (zc : Int)] 62)
              have dz1 : ((wr.setCell ⟨B.kb, i, none⟩ (.int .i64 2)).alloc (.cells #[.int .u8 (zk : Int), .int .u8 (za : Int), .int .u8 (zb : Int), .int .u8 (zc : Int)] 62)).cell? ⟨wr.heap.size, 1, none⟩ = some (.int .u8 (za : Int)) := by go_simp
              have dz3 : ((wr.setCell ⟨B.kb, i, none⟩ (.int .i64 2)).alloc (.cells #[.int .u8 (zk : Int), .int .u8 (za : Int), .int .u8 (zb : Int), .int .u8 (zc : Int)] 62)).cell? ⟨wr.heap.size, 3, none⟩ = some (.int .u8 (zc : Int)) := by go_simp
              have Hk2i : Hid _ := hk2i
              have Hgw1 : Hid _ := hgw1
              clear hk2i hgw1 Hinit
              have hS1 : Hid (B.S + 15 ≤ wr.heap.size) := Hb.out.s1
              clear t1 t2 k1 k2 p1 p2 h1 h2 e1 e2 y0 y1 y2 y3
              generalize hw1 : (wr.setCell ⟨B.kb, i, none⟩ (.int .i64 2)).alloc (.cells #[.int .u8 (zk : Int), .int .u8 (za : Int), .int .u8 (zb : Int), .int .u8 (zc : Int)] 62) = w1 at *
              clear hw1
              generalize hdB : wr.heap.size = dB at *
              have HdB : Hid _ := hdB
              clear hdB
              go_loopg [18, 17] m (fun g vj va wr2 => K2R B z n i 2 w1 tv has kv m g vj va wr2)
              case atStart => exact ⟨0, _, false, Nat.zero_le _, by simp, rfl, Hk2i.out, ⟨fun h => by simp at h, fun ⟨l, hl, _⟩ => by omega⟩⟩
              case round =>
                obtain ⟨j, ko, hj, hjm, hg2, rfl, hK, hhj⟩ := hrel
                have Hg2 : Hid _ := hg2
                have HK : Hid _ := hK
                have Hhj : Hid _ := hhj
                have nM : ∀ x, x = dB → ¬ M5 B x := fun x hx e => by
                  have b1 := Bo.out.tb; have b2 := Bo.out.kb; have b3 := Bo.out.pb; have b4 := Bo.out.cb; have b5 := Bo.out.hb
                  have := hS1.out
                  rcases e with e | e | e | e | e <;> omega
                have dy1 := hK.g.cellOf dz1 (nM _ rfl)
                have dy3 := hK.g.cellOf dz3 (nM _ rfl)
                clear hg2 hK hhj nM
                by_cases hjl : j < m
                · have hkj := Hkd.out j
                  have hci : kdZ z i j < i := by rw [hkj]; exact Nat.mod_lt _ (by omega)
                  have qc : Int.tmod ((za : Int) + ((j * (zc + 1) : Nat) : Int)) (i : Int) = ((kdZ z i j : Nat) : Int) := by
                    rw [hkj, Int.tmod_eq_emod_of_nonneg (by omega), ← Int.natCast_add]
                    exact (Int.natCast_emod _ _).symm
                  have hpj : (j : Int) * ((zc : Int) + 1) = ((j * (zc + 1) : Nat) : Int) := by simp
                  have hpb : j * (zc + 1) ≤ 512 := Nat.le_trans (Nat.mul_le_mul (by omega : j ≤ 2) (by omega : zc + 1 ≤ 256)) (by omega)
                  have t5 := HK.out.rt.cell (i := kdZ z i j) (by omega)
                  have r5 := HK.out.rh.cell (i := kdZ z i j) (by omega)
                  have c5 := HK.out.rc.cell hlt
                  have c6 := HK.out.rc.frozen i
                  simp only [if_pos hci, if_neg (Nat.ne_of_lt hci), if_true] at t5 r5 c5
                  have Hci : Hid (kdZ z i j < i) := hci
                  generalize hcz : kdZ z i j = c at *
                  have Hcz : Hid _ := hcz
                  clear hcz hkj
                  generalize j * (zc + 1) = pj at *
                  generalize htc : tv c = tc at *
                  have Htc : Hid _ := htc
                  clear htc
                  have hcn : (c : Int) < (n : Int) := by omega
                  obtain ⟨tc1, tc2⟩ := tc
                  unfold Ky.val at t5
                  simp only at t5
                  cases hhc : has c with
                  | false =>
                    rw [hhc] at r5
                    go_wp2_with (at_builtin; first | (refine wpList_kid rfl (.tmp 224) (.tmp 226) rfl Bo.out hlt (by decide) HK.out (by omega) c Hcz.out rfl rfl rfl Yba.i3 ?_; intro g3 cap3 w3 f1 f2 hk3 hg3; have t6 := hg3.out.cellOf t5 (fun e => by have b1 := Bo.out.tb; have := HK.out.b1; omega); have r6 := hg3.out.cellOf r5 (fun e => by have b1 := Bo.out.hb; have := HK.out.b1; omega)) | (refine wpList_arg rfl (.tmp 229) (.tmp 234) rfl Bo.out hk3.out (by omega) _ (by show (tv (kdZ z i j)).val = Ky.val ⟨tc1, tc2⟩; rw [Hcz.out, Htc.out]) rfl rfl w3.heap.size (Go.Deep.nblk_setCell _ _ _) rfl rfl ?_; intro g4 cap4 w4 hk4 hg4; have r7 : w4.cell? ⟨B.hb, c, none⟩ = some (.bool false) := hg4.out.cellOf (by go_simp) (fun e => by have b1 := Bo.out.hb; have := HK.out.b1; omega); have r8 := hk4.out.rh.cell hlt; have r9 := hk4.out.rh.frozen i))
                    go_roundg (m - (j + 1))
                    case measure => rw [Hg2.out]; omega
                    case rel =>
                      refine ⟨j + 1, _, _, by omega, rfl, by go_num, hk4.out, ?_⟩
                      constructor
                      · intro h
                        obtain ⟨l, hl, e⟩ := Hhj.out.1 h
                        exact ⟨l, by omega, e⟩
                      · rintro ⟨l, hl, e⟩
                        by_cases hlj : l = j
                        · subst hlj
                          rw [Hcz.out, hhc] at e
                          cases e
                        · exact Hhj.out.2 ⟨l, by omega, e⟩
                  | true =>
                    rw [hhc] at r5
                    go_wp2_with (at_builtin; first | (refine wpList_kid rfl (.tmp 224) (.tmp 226) rfl Bo.out hlt (by decide) HK.out (by omega) c Hcz.out rfl rfl rfl Yba.i3 ?_; intro g3 cap3 w3 f1 f2 hk3 hg3; have t6 := hg3.out.cellOf t5 (fun e => by have b1 := Bo.out.tb; have := HK.out.b1; omega); have r6 := hg3.out.cellOf r5 (fun e => by have b1 := Bo.out.hb; have := HK.out.b1; omega)) | (refine wpList_arg rfl (.tmp 229) (.tmp 234) rfl Bo.out hk3.out (by omega) _ (by show (tv (kdZ z i j)).val = Ky.val ⟨tc1, tc2⟩; rw [Hcz.out, Htc.out]) rfl rfl w3.heap.size (Go.Deep.nblk_setCell _ _ _) rfl rfl ?_; intro g4 cap4 w4 hk4 hg4; have r7 : w4.cell? ⟨B.hb, c, none⟩ = some (.bool true) := hg4.out.cellOf (by go_simp) (fun e => by have b1 := Bo.out.hb; have := HK.out.b1; omega); have r8 := hk4.out.rh.cell hlt; have r9 := hk4.out.rh.frozen i))
                    go_roundg (m - (j + 1))
                    case measure => rw [Hg2.out]; omega
                    case rel =>
                      refine ⟨j + 1, _, _, by omega, rfl, by go_num, hk4.out.hasT Bo.out, ?_⟩
                      constructor
                      · intro _
                        exact ⟨j, by omega, by rw [Hcz.out]; exact hhc⟩
                      · intro _
                        rfl
                · obtain rfl : j = m := by omega
                  have t5 := HK.out.rt.cell hlt
                  have t6 := HK.out.rt.frozen i
                  have t7 := HK.out.rt.lt
                  simp only [Nat.lt_irrefl, if_false] at t5
                  obtain ⟨ao, na, ca, rfl⟩ : ∃ ao na ca, u17 = .slice ao na ca := by rcases HK.out.oa.2 with ⟨h, _⟩ | ⟨_, _, _, h, _⟩ <;> exact ⟨_, _, _, h⟩
                  have Hfin : Hid _ := bin_kind2 Bo.out Hb.out hlt hn Hk2.out Hgw1.out (by rw [Hmz.out]; exact HK.out) (by rw [Hmz.out]; exact Hhj.out)
                  unfold namedObj at Hfin
                  go_wp2_with fail
                  go_roundg (n - (i + 1))
                  case measure => rw [Hg.out]; omega
                  case rel => exact ⟨i + 1, _, _, _, by omega, rfl, by go_num, Hfin.out⟩
          · have hk3 : kindZ z i = 3 := by rw [Hzi.out, if_neg (fun h => hz h.1)]; exact q
            have Hk3 : Hid _ := hk3
            have q' : ((z.k i : Nat) : Int) % 4 = 3 := by omega
            have q3 : Int.tmod ((z.k i : Nat) : Int) 4 = 3 := by rw [Int.tmod_eq_emod_of_nonneg (by omega)]; exact q'
            have q5 : Int.tmod ((z.b i : Nat) : Int) 3 = ((mZ z i : Nat) : Int) := by rw [Int.tmod_eq_emod_of_nonneg (by omega)]; unfold mZ; omega
            have q6 : ((z.b i : Nat) : Int) % 3 = ((mZ z i : Nat) : Int) := by unfold mZ; omega
            have hm3 : mZ z i < 3 := by unfold mZ; omega
            have Hkd : Hid (∀ j, kdZ z i (2 * j) = (z.a i + j) % i ∧ kdZ z i (2 * j + 1) = (z.c i + j) % i) := fun j => by
              refine ⟨?_, ?_⟩
              · unfold kdZ
                rw [if_neg (by omega), if_pos (by omega), show 2 * j / 2 = j by omega]
              · unfold kdZ
                rw [if_neg (by omega), if_neg (by omega), show (2 * j + 1) / 2 = j by omega]
            have Hinit : Hid (∀ o, _ ∧ _) := fun o => k2_init Bo.out Hb.out o 3 67 (fun l => fp l)
            clear hk3 q
            generalize hmz : mZ z i = m at *
            have Hmz : Hid _ := hmz
            clear hmz
            generalize z.k i = zk at *
            generalize z.a i = za at *
            generalize z.b i = zb at *
            generalize z.c i = zc at *
            go_wp2_with fail
            obtain ⟨hk2i, hgw1⟩ := Hinit.out (.cells #[.int .u8 (zk : Int), .int .u8 (za : Int), .int .u8 (zb : Int), .int .u8 (zc : Int)] 62)
            have dz1 : ((wr.setCell ⟨B.kb, i, none⟩ (.int .i64 3)).alloc (.cells #[.int .u8 (zk : Int), .int .u8 (za : Int), .int .u8 (zb : Int), .int .u8 (zc : Int)] 62)).cell? ⟨wr.heap.size, 1, none⟩ = some (.int .u8 (za : Int)) := by go_simp
            have dz3 : ((wr.setCell ⟨B.kb, i, none⟩ (.int .i64 3)).alloc (.cells #[.int .u8 (zk : Int), .int .u8 (za : Int), .int .u8 (zb : Int), .int .u8 (zc : Int)] 62)).cell? ⟨wr.heap.size, 3, none⟩ = some (.int .u8 (zc : Int)) := by go_simp
            have Hk2i : Hid _ := hk2i
            have Hgw1 : Hid _ := hgw1
            clear hk2i hgw1 Hinit
            have hS1 : Hid (B.S + 15 ≤ wr.heap.size) := Hb.out.s1
            clear t1 t2 k1 k2 p1 p2 h1 h2 e1 e2 y0 y1 y2 y3
            generalize hw1 : (wr.setCell ⟨B.kb, i, none⟩ (.int .i64 3)).alloc (.cells #[.int .u8 (zk : Int), .int .u8 (za : Int), .int .u8 (zb : Int), .int .u8 (zc : Int)] 62) = w1 at *
            clear hw1
            generalize hdB : wr.heap.size = dB at *
            have HdB : Hid _ := hdB
            clear hdB
            go_loopg [22, 21] m (fun g vj va wr2 => K3R B z n i w1 tv has kv m g vj va wr2)
            case atStart => exact ⟨0, _, false, fun l => l, Nat.zero_le _, by simp, rfl, ⟨Hk2i.out, fun l hl => absurd hl (Nat.not_lt_zero _)⟩, ⟨fun h => by simp at h, fun ⟨l, hl, _⟩ => by omega⟩⟩
            case round =>
              obtain ⟨j, ko, hj, ps, hjm, hg2, rfl, hK, hhj⟩ := hrel
              have Hg2 : Hid _ := hg2
              have HK : Hid _ := hK
              have Hhj : Hid _ := hhj
              have nM : ∀ x, x = dB → ¬ M5 B x := fun x hx e => by
                have b1 := Bo.out.tb; have b2 := Bo.out.kb; have b3 := Bo.out.pb; have b4 := Bo.out.cb; have b5 := Bo.out.hb
                have := hS1.out
                rcases e with e | e | e | e | e <;> omega
              have dy1 := hK.k.g.cellOf dz1 (nM _ rfl)
              have dy3 := hK.k.g.cellOf dz3 (nM _ rfl)
              clear hg2 hK hhj nM
              by_cases hjl : j < m
              · obtain ⟨hkj, hkj2⟩ := Hkd.out j
                have hci : kdZ z i (2 * j) < i := by rw [hkj]; exact Nat.mod_lt _ (by omega)
                have hdi : kdZ z i (2 * j + 1) < i := by rw [hkj2]; exact Nat.mod_lt _ (by omega)
                have qc : Int.tmod ((za : Int) + (j : Int)) (i : Int) = ((kdZ z i (2 * j) : Nat) : Int) := by
                  rw [hkj, Int.tmod_eq_emod_of_nonneg (by omega), ← Int.natCast_add]
                  exact (Int.natCast_emod _ _).symm
                have qd : Int.tmod ((zc : Int) + (j : Int)) (i : Int) = ((kdZ z i (2 * j + 1) : Nat) : Int) := by
                  rw [hkj2, Int.tmod_eq_emod_of_nonneg (by omega), ← Int.natCast_add]
                  exact (Int.natCast_emod _ _).symm
                have t5 := HK.out.k.rt.cell (i := kdZ z i (2 * j)) (by omega)
                have r5 := HK.out.k.rh.cell (i := kdZ z i (2 * j)) (by omega)
                have t7 := HK.out.k.rt.cell (i := kdZ z i (2 * j + 1)) (by omega)
                have r7 := HK.out.k.rh.cell (i := kdZ z i (2 * j + 1)) (by omega)
                have r9 := HK.out.k.rh.cell hlt
                have rf9 := HK.out.k.rh.frozen i
                have c5 := HK.out.k.rc.cell hlt
                have c6 := HK.out.k.rc.frozen i
                simp only [if_pos hci, if_neg (Nat.ne_of_lt hci), if_pos hdi, if_neg (Nat.ne_of_lt hdi), if_true] at t5 r5 t7 r7 r9 c5
                generalize hcz : kdZ z i (2 * j) = c at *
                have Hcz : Hid _ := hcz
                generalize hez : kdZ z i (2 * j + 1) = d at *
                have Hez : Hid _ := hez
                clear hcz hkj hez hkj2
                generalize htc : tv c = tc at *
                have Htc : Hid _ := htc
                clear htc
                generalize hte : tv d = te at *
                have Hte : Hid _ := hte
                clear hte
                have hcn : (c : Int) < (n : Int) := by omega
                have hen : (d : Int) < (n : Int) := by omega
                obtain ⟨tc1, tc2⟩ := tc
                obtain ⟨te1, te2⟩ := te
                unfold Ky.val at t5 t7
                simp only at t5 t7
                have rlt := HK.out.k.rh.lt
                have HX : Hid (∀ y, ko.ownBlock = some y → y ≠ B.tb ∧ y ≠ B.hb) := fun y e => by
                  have := (HK.out.k.ok.lt y e).1; have b1 := Bo.out.tb; have b2 := Bo.out.hb; have := HK.out.k.b1
                  exact ⟨by omega, by omega⟩
                cases hhc : has c with
                | false =>
                  cases hhd : has d with
                  | false =>
                    rw [hhc] at r5
                    rw [hhd] at r7
                    go_wp2_with (at_builtin; (refine wpList_kid2 rfl (.tmp 121) (.tmp 124) rfl Bo.out hlt (by decide) HK.out.k (by omega) c d Hcz.out Hez.out rfl rfl rfl Yba.i3 ?_; intro g3 cap3 w3 f1 f2 hk3 hg3; have t6 := hg3.out.cellOf t5 (fun e => (HX.out _ e).1 rfl); have t8 := hg3.out.cellOf t7 (fun e => (HX.out _ e).1 rfl); have r6 := hg3.out.cellOf r5 (fun e => (HX.out _ e).2 rfl); have r8 := hg3.out.cellOf r7 (fun e => (HX.out _ e).2 rfl); have r10 := hg3.out.cellOf r9 (fun e => (HX.out _ e).2 rfl); have rf10 := (hg3.out.frozen (o := i) rlt (fun e => (HX.out _ e).2 rfl)).trans rf9; have tlt6 : B.tb < w3.heap.size := World.block_lt_of_cell? _ _ t6; have hlt6 : B.hb < w3.heap.size := World.block_lt_of_cell? _ _ r6))
                    go_region_law (refine step_fld rfl (.tmp 140) (.tmp 152) rfl Bo.out (HK.out.kid2 Bo.out hg3.out hk3.out) (by omega) ((Grw.refl _ _).drew) ⟨tc1, tc2⟩ ⟨te1, te2⟩ (by rw [Hcz.out, Htc.out]) (by rw [Hez.out, Hte.out]) w3.heap.size (by simp [World.drew, Go.Deep.nblk_setCell]) rfl rfl rfl ?_; intro g4 cap4 w4 hk4)
                    all_goals
                      as_aux_lemma =>
                        go_wp2_with fail
                        go_roundg (m - (j + 1))
                        case measure => rw [Hg2.out]; omega
                        case rel =>
                          obtain ⟨ps', hk5⟩ := hk4.out
                          refine ⟨j + 1, _, _, ps', by omega, rfl, by go_num, hk5, ?_⟩
                          constructor
                          · intro h
                            obtain ⟨l, hl, e⟩ := Hhj.out.1 h
                            exact ⟨l, by omega, e⟩
                          · rintro ⟨l, hl, e⟩
                            by_cases hlj : l = 2 * j
                            · subst hlj; rw [Hcz.out, hhc] at e; cases e
                            · by_cases hlj2 : l = 2 * j + 1
                              · subst hlj2; rw [Hez.out, hhd] at e; cases e
                              · exact Hhj.out.2 ⟨l, by omega, e⟩
                  | true =>
                    rw [hhc] at r5
                    rw [hhd] at r7
                    go_wp2_with (at_builtin; (refine wpList_kid2 rfl (.tmp 121) (.tmp 124) rfl Bo.out hlt (by decide) HK.out.k (by omega) c d Hcz.out Hez.out rfl rfl rfl Yba.i3 ?_; intro g3 cap3 w3 f1 f2 hk3 hg3; have t6 := hg3.out.cellOf t5 (fun e => (HX.out _ e).1 rfl); have t8 := hg3.out.cellOf t7 (fun e => (HX.out _ e).1 rfl); have r6 := hg3.out.cellOf r5 (fun e => (HX.out _ e).2 rfl); have r8 := hg3.out.cellOf r7 (fun e => (HX.out _ e).2 rfl); have r10 := hg3.out.cellOf r9 (fun e => (HX.out _ e).2 rfl); have rf10 := (hg3.out.frozen (o := i) rlt (fun e => (HX.out _ e).2 rfl)).trans rf9; have tlt6 : B.tb < w3.heap.size := World.block_lt_of_cell? _ _ t6; have hlt6 : B.hb < w3.heap.size := World.block_lt_of_cell? _ _ r6))
                    go_region_law (refine step_fld rfl (.tmp 140) (.tmp 152) rfl Bo.out ((HK.out.kid2 Bo.out hg3.out hk3.out).hasT Bo.out) (by omega) ((Grw.refl _ _).drew) ⟨tc1, tc2⟩ ⟨te1, te2⟩ (by rw [Hcz.out, Htc.out]) (by rw [Hez.out, Hte.out]) w3.heap.size (by simp [World.drew, Go.Deep.nblk_setCell]) rfl rfl rfl ?_; intro g4 cap4 w4 hk4)
                    all_goals
                      as_aux_lemma =>
                        go_wp2_with fail
                        go_roundg (m - (j + 1))
                        case measure => rw [Hg2.out]; omega
                        case rel =>
                          obtain ⟨ps', hk5⟩ := hk4.out
                          refine ⟨j + 1, _, _, ps', by omega, rfl, by go_num, hk5, ?_⟩
                          exact ⟨fun _ => ⟨2 * j + 1, by omega, by rw [Hez.out]; exact hhd⟩, fun _ => rfl⟩
                | true =>
                  rw [hhc] at r5
                  go_wp2_with (at_builtin; (refine wpList_kid2 rfl (.tmp 121) (.tmp 124) rfl Bo.out hlt (by decide) HK.out.k (by omega) c d Hcz.out Hez.out rfl rfl rfl Yba.i3 ?_; intro g3 cap3 w3 f1 f2 hk3 hg3; have t6 := hg3.out.cellOf t5 (fun e => (HX.out _ e).1 rfl); have t8 := hg3.out.cellOf t7 (fun e => (HX.out _ e).1 rfl); have r6 := hg3.out.cellOf r5 (fun e => (HX.out _ e).2 rfl); have r8 := hg3.out.cellOf r7 (fun e => (HX.out _ e).2 rfl); have r10 := hg3.out.cellOf r9 (fun e => (HX.out _ e).2 rfl); have rf10 := (hg3.out.frozen (o := i) rlt (fun e => (HX.out _ e).2 rfl)).trans rf9; have tlt6 : B.tb < w3.heap.size := World.block_lt_of_cell? _ _ t6; have hlt6 : B.hb < w3.heap.size := World.block_lt_of_cell? _ _ r6))
                  go_region_law (refine step_fld rfl (.tmp 140) (.tmp 152) rfl Bo.out ((HK.out.kid2 Bo.out hg3.out hk3.out).hasT Bo.out) (by omega) ((Grw.refl _ _).drew) ⟨tc1, tc2⟩ ⟨te1, te2⟩ (by rw [Hcz.out, Htc.out]) (by rw [Hez.out, Hte.out]) w3.heap.size (by simp [World.drew, Go.Deep.nblk_setCell]) rfl rfl rfl ?_; intro g4 cap4 w4 hk4)
                  all_goals
                    as_aux_lemma =>
                      go_wp2_with fail
                      go_roundg (m - (j + 1))
                      case measure => rw [Hg2.out]; omega
                      case rel =>
                        obtain ⟨ps', hk5⟩ := hk4.out
                        refine ⟨j + 1, _, _, ps', by omega, rfl, by go_num, hk5, ?_⟩
                        exact ⟨fun _ => ⟨2 * j, by omega, by rw [Hcz.out]; exact hhc⟩, fun _ => rfl⟩
              · as_aux_lemma =>
                  obtain rfl : j = m := by omega
                  have t5 := HK.out.k.rt.cell hlt
                  have t6 := HK.out.k.rt.frozen i
                  have t7 := HK.out.k.rt.lt
                  simp only [Nat.lt_irrefl, if_false] at t5
                  obtain ⟨ao, na, ca, rfl⟩ : ∃ ao na ca, u21 = .slice ao na ca := by rcases HK.out.k.oa.2 with ⟨h, _⟩ | ⟨_, _, _, h, _⟩ <;> exact ⟨_, _, _, h⟩
                  have Hfin : Hid _ := bin_kind3 Bo.out Hb.out hlt hn Hk3.out Hgw1.out (by rw [Hmz.out]; exact HK.out) (by rw [Hmz.out]; exact Hhj.out)
                  unfold structObj at Hfin
                  go_wp2_with fail
                  go_roundg (n - (i + 1))
                  case measure => rw [Hg.out]; omega
                  case rel => exact ⟨i + 1, _, _, _, by omega, rfl, by go_num, Hfin.out⟩
    · obtain rfl : n = i := by omega
      obtain ⟨N, hN⟩ : ∃ N, n = N + 1 := ⟨n - 1, by have := Hn.out.1; omega⟩
      have HN : Hid _ := hN
      have hN1 : (n : Int) - 1 = (N : Int) := by omega
      have hN2 : (N : Int) < (n : Int) := by omega
      have hN3 : N < n := by omega
      have hN4 : (0 : Int) ≤ (N : Int) := by omega
      clear hN Hin m23 m59 hlt
      have hmr := made_row (wr.alloc (.cells (madeCells #[.bool false] n) 4)) wr.heap.size n (.bool false) 4 (heap_alloc_new wr _)
      have cN := hmr.cell hN3
      have fN := hmr.frozen N
      have gN : (madeCells #[Value.bool false] n)[N]? = some (.bool false) := by simp [madeCells, hN3, Nat.mod_one]
      have gN' : (madeCells #[Value.bool false] n).size = n := by simp [size_madeCells]
      clear hmr
      go_wp2_with fail
      clear cN fN gN gN' Hg hi
      generalize hwB : wr = wB at *
      clear hwB
      generalize hrb : wB.heap.size = rb
      generalize hwb : rb + 1 = wb
      have HM0 : Hid (RchM n wB ((wB.alloc (.cells ((madeCells #[.bool false] n).setIfInBounds N (.bool true)) 4)).alloc (.cells #[.int .i64 0, .int .i64 0, .int .i64 0] 3)) rb wb (updB (fun _ => false) N true) (fun _ => 0)) := rchM_init wB n N hN3 rb wb hrb hwb
      have Hrb : Hid _ := hrb
      have Hwb : Hid _ := hwb
      clear hrb hwb
      generalize (wB.alloc (.cells ((madeCells #[.bool false] n).setIfInBounds N (.bool true)) 4)).alloc (.cells #[.int .i64 0, .int .i64 0, .int .i64 0] 3) = wX at *
      go_loopg [28, 27] n (fun g vi va wr => RcR z use n wB rb wb g vi va wr)
      case atStart =>
        refine ⟨n, updB (fun _ => false) N true, fun _ => 0, 0, Nat.le_refl _, rfl, by rw [hN1], rfl, ?_, HM0.out⟩
        have h := rchP_init z use n
        rw [show n - 1 = N by have := HN.out; omega] at h
        exact h
      case round =>
        clear HM0
        obtain ⟨i, R, wq, wa, hi, hg, hv, rfl, hP, hM⟩ := hrel
        have Hg : Hid _ := hg
        have HP : Hid _ := hP
        have HM : Hid _ := hM
        clear hg hP hM
        rcases Nat.eq_zero_or_pos i with h0 | hpos
        · subst h0
          obtain rfl : u28 = .int .i64 (-1) := by rw [hv]; rfl
          clear hv
          cases use with
          | false =>
            have hA : ApIn wB ((((wr.alloc (.cells #[.int .i64 0, .int .i64 0, .int .i64 0] 3)).alloc (.cells #[.slice (some ⟨wr.heap.size, 0, none⟩) 3 3] 23)).alloc (.cells #[.int .i64 0] 3)).alloc (.cells #[.nilFunc, .func (.func 10) #[] #[.pointer (some ⟨wr.heap.size + 1 + 1, 0, none⟩)], .nilFunc] 79)) wb (wr.heap.size + 1) wr.heap.size (wr.heap.size + 1 + 1) (wr.heap.size + 1 + 1 + 1) wq .nilFunc := apIn_new HM.out .nilFunc wr.heap.size (wr.heap.size + 1) (wr.heap.size + 1 + 1) (wr.heap.size + 1 + 1 + 1) rfl rfl rfl rfl
            have HC : Hid (∀ W, Grw None' ((((wr.alloc (.cells #[.int .i64 0, .int .i64 0, .int .i64 0] 3)).alloc (.cells #[.slice (some ⟨wr.heap.size, 0, none⟩) 3 3] 23)).alloc (.cells #[.int .i64 0] 3)).alloc (.cells #[.nilFunc, .func (.func 10) #[] #[.pointer (some ⟨wr.heap.size + 1 + 1, 0, none⟩)], .nilFunc] 79)) W → Calls Yba.prog 12 #[.agg #[.nilFunc, .func (.func 10) #[] #[.pointer (some ⟨wr.heap.size + 1 + 1, 0, none⟩)], .nilFunc], (tv N).val] W (fun e w' => ∃ s, e = .returned s ∧ ApOut B z false n N tv has wB wb (wr.heap.size + 1) wr.heap.size (wr.heap.size + 1 + 1) wq R s w' ∧ (w'.cell? ⟨wr.heap.size + 1 + 1 + 1, 0, none⟩ = some .nilFunc ∧ w'.cell? ⟨wr.heap.size + 1 + 1 + 1, 1, none⟩ = some (.func (.func 10) #[] #[.pointer (some ⟨wr.heap.size + 1 + 1, 0, none⟩)]) ∧ w'.cell? ⟨wr.heap.size + 1 + 1 + 1, 2, none⟩ = some .nilFunc ∧ w'.cell? ⟨B.tb, N, none⟩ = some (tv N).val))) := fun W g => ap_call Bo.out Hb.out HP.out HN.out hA W g
            have HA : Hid _ := hA
            have tN0 := Hb.out.rt.cell hN3
            rw [if_pos hN3] at tN0
            have tN := hA.g.cellOf tN0 (fun e => e)
            have r0 := hA.r0
            have r1 := hA.r1
            have r2 := hA.r2
            clear hA tN0 HM
            have hwN := wrapN N (by omega)
            go_wp2_with fail
            generalize ((((wr.alloc (.cells #[.int .i64 0, .int .i64 0, .int .i64 0] 3)).alloc (.cells #[.slice (some ⟨wr.heap.size, 0, none⟩) 3 3] 23)).alloc (.cells #[.int .i64 0] 3)).alloc (.cells #[.nilFunc, .func (.func 10) #[] #[.pointer (some ⟨wr.heap.size + 1 + 1, 0, none⟩)], .nilFunc] 79)) = wx at HA HC tN r0 r1 r2 ⊢
            generalize wr.heap.size + 1 = cv at HA HC tN r0 r1 r2 ⊢
            generalize cv + 1 = ac at HA HC tN r0 r1 r2 ⊢
            generalize ac + 1 = rwb at HA HC tN r0 r1 r2 ⊢
            generalize wr.heap.size = cr at HA HC tN r0 r1 r2 ⊢
            generalize htN : tv N = tN' at HC tN
            clear htN
            obtain ⟨tN1, tN2⟩ := tN'
            unfold Ky.val at tN HC
            simp only at tN HC
            go_region_held3 (fun w' => w'.cell? ⟨rwb, 0, none⟩ = some .nilFunc ∧ w'.cell? ⟨rwb, 1, none⟩ = some (.func (.func 10) #[] #[.pointer (some ⟨ac, 0, none⟩)]) ∧ w'.cell? ⟨rwb, 2, none⟩ = some .nilFunc ∧ w'.cell? ⟨B.tb, N, none⟩ = some (.iface tN1 (.pointer (some ⟨tN2, 0, none⟩)))) (first | exact ⟨e0, e1, e2, e3⟩ | exact ⟨r0, r1, r2, tN⟩) (first | (go_at_call 12; refine Calls.mono (HC.out _ (Grw.refl None' wx).drew) ?_; rintro e w3 ⟨s, rfl, hout, e0, e1, e2, e3⟩; have HO : Hid _ := hout; clear hout))
            clear r0 r1 r2 tN HC HA hwN e0 e1 e2 e3
            obtain ⟨D, F, hs, o1, o2, o3, o4, o5, o6, o7, o8, o9⟩ := HO.out
            clear HO
            have tg : w3.cell? ⟨B.gv, 0, none⟩ = some (.slice (some ⟨B.gr, 0, none⟩) 3 3) := o3.tgt.c
            have tgl : B.gv < w3.heap.size := World.block_lt_of_cell? _ _ tg
            have tgl1 : B.gv < w3.heap.size + 1 := by omega
            have tgl2 : B.gv < w3.heap.size + 1 + 1 := by omega
            have cv3 : w3.cell? ⟨cv, 0, none⟩ = some (.slice (some ⟨cr, 0, none⟩) 3 3) := o3.cv
            have O1 : Hid _ := o1
            have O2 : Hid _ := o2
            have O3 : Hid _ := o3
            have O4 : Hid _ := o4
            have O5 : Hid _ := o5
            have HCt : Hid (_ ∧ _) := rch_counts (envF_ok cv cr ac Hb.out.ok) HP.out (by have h := o1; rw [show N = n - 1 by have := HN.out; omega] at h; exact h) o4 o9
            have O6 : Hid (CntAt w3 ac (wa : Int)) := by have h := o6; rw [HCt.out.2] at h; exact h
            have O7 : Hid (∀ k, k < 3 → w3.cell? ⟨cr, k, none⟩ = some (.int .i64 (wq k : Int))) := fun k hk => by rw [← HCt.out.1 k hk]; exact o7.e k hk
            have O8 : Hid (∀ k, k < 3 → w3.cell? ⟨wb, k, none⟩ = some (.int .i64 (wq k : Int))) := fun k hk => o8.cell hk
            have Hs : Hid _ := hs
            clear o1 o2 o3 o4 o5 o6 o7 o8 o9 HCt hs
            go_wp2_with fail
            go_region
            all_goals
              as_aux_lemma =>
                go_wp2_with fail
                first
                  | refine Calls.mono (chIn_call Hb.out (chA Bo.out Hb.out O2.out O3.out O4.out O5.out (Grw.refl _ _).drew) hN3 O1.out _ Hs.out.symm) ?_
                  | refine Calls.mono (chIn_call Hb.out (chB Bo.out Hb.out O2.out O3.out O4.out O5.out (Grw.refl _ _).drew) hN3 O1.out _ Hs.out.symm) ?_
                rintro e w4 ⟨rfl, g4⟩
                have G4 : Hid _ := g4
                clear g4
                have cv4 := G4.out.cellOf cv3 (fun e => e)
                have ac4 := G4.out.cellOf O6.out.c0 (fun e => e)
                have Cl4 : Hid (∀ k, k < 3 → w4.cell? ⟨cr, k, none⟩ = some (.int .i64 (wq k : Int))) := fun k hk => G4.out.cellOf (O7.out k hk) (fun e => e)
                have Wq4 : Hid (∀ k, k < 3 → w4.cell? ⟨wb, k, none⟩ = some (.int .i64 (wq k : Int))) := fun k hk => G4.out.cellOf (O8.out k hk) (fun e => e)
                have HGG : Hid (Grw None' w w4) := (Hb.out.g0.trans O2.out).trans G4.out
                clear cv3 O1 O2 O3 O4 O5 O6 O7 O8 G4 m58 m60 tg tgl tgl1 tgl2
                go_wp2_with fail
                go_loopg [36] 3 (fun g vk wr => CmR w4 g vk wr)
                case atStart => exact ⟨0, by omega, rfl, rfl, Grw.refl _ _⟩
                case round =>
                  obtain ⟨k, hk, hg5, rfl, hgr⟩ := hrel
                  have Hg5 : Hid _ := hg5
                  have Hgr : Hid _ := hgr
                  clear hg5 hgr
                  by_cases hk3 : k < 3
                  · have a1 := Hgr.out.cellOf cv4 (fun e => e)
                    have a2 := Hgr.out.cellOf (Cl4.out k hk3) (fun e => e)
                    have a3 := Hgr.out.cellOf (Wq4.out k hk3) (fun e => e)
                    clear cv4 ac4
                    generalize wq k = v at a2 a3
                    have hk3' : (k : Int) < 3 := by omega
                    go_wp2_with fail
                    go_quiet (fail)
                    go_wp2_with fail
                    go_roundg (3 - (k + 1))
                    case measure => rw [Hg5.out]; omega
                    case rel => exact ⟨k + 1, by omega, rfl, by go_num, Hgr.out.trans grw_dd⟩
                  · have hk3n : ¬ ((k : Int) < 3) := by omega
                    have a1 := Hgr.out.cellOf ac4 (fun e => e)
                    clear cv4 ac4
                    go_wp2_with fail
                    go_ret
                    exact ⟨rfl, HGG.out.trans Hgr.out⟩
          | true =>
            have hA : ApIn wB ((((wr.alloc (.cells #[.int .i64 0, .int .i64 0, .int .i64 0] 3)).alloc (.cells #[.slice (some ⟨wr.heap.size, 0, none⟩) 3 3] 23)).alloc (.cells #[.int .i64 0] 3)).alloc (.cells #[(.func (.func 11) #[] #[.pointer (some ⟨B.pv, 0, none⟩), .pointer (some ⟨wr.heap.size + 1, 0, none⟩), .pointer (some ⟨B.gv, 0, none⟩)]), .func (.func 10) #[] #[.pointer (some ⟨wr.heap.size + 1 + 1, 0, none⟩)], .nilFunc] 79)) wb (wr.heap.size + 1) wr.heap.size (wr.heap.size + 1 + 1) (wr.heap.size + 1 + 1 + 1) wq (.func (.func 11) #[] #[.pointer (some ⟨B.pv, 0, none⟩), .pointer (some ⟨wr.heap.size + 1, 0, none⟩), .pointer (some ⟨B.gv, 0, none⟩)]) := apIn_new HM.out (.func (.func 11) #[] #[.pointer (some ⟨B.pv, 0, none⟩), .pointer (some ⟨wr.heap.size + 1, 0, none⟩), .pointer (some ⟨B.gv, 0, none⟩)]) wr.heap.size (wr.heap.size + 1) (wr.heap.size + 1 + 1) (wr.heap.size + 1 + 1 + 1) rfl rfl rfl rfl
            have HC : Hid (∀ W, Grw None' ((((wr.alloc (.cells #[.int .i64 0, .int .i64 0, .int .i64 0] 3)).alloc (.cells #[.slice (some ⟨wr.heap.size, 0, none⟩) 3 3] 23)).alloc (.cells #[.int .i64 0] 3)).alloc (.cells #[(.func (.func 11) #[] #[.pointer (some ⟨B.pv, 0, none⟩), .pointer (some ⟨wr.heap.size + 1, 0, none⟩), .pointer (some ⟨B.gv, 0, none⟩)]), .func (.func 10) #[] #[.pointer (some ⟨wr.heap.size + 1 + 1, 0, none⟩)], .nilFunc] 79)) W → Calls Yba.prog 12 #[.agg #[(.func (.func 11) #[] #[.pointer (some ⟨B.pv, 0, none⟩), .pointer (some ⟨wr.heap.size + 1, 0, none⟩), .pointer (some ⟨B.gv, 0, none⟩)]), .func (.func 10) #[] #[.pointer (some ⟨wr.heap.size + 1 + 1, 0, none⟩)], .nilFunc], (tv N).val] W (fun e w' => ∃ s, e = .returned s ∧ ApOut B z true n N tv has wB wb (wr.heap.size + 1) wr.heap.size (wr.heap.size + 1 + 1) wq R s w' ∧ (w'.cell? ⟨wr.heap.size + 1 + 1 + 1, 0, none⟩ = some (.func (.func 11) #[] #[.pointer (some ⟨B.pv, 0, none⟩), .pointer (some ⟨wr.heap.size + 1, 0, none⟩), .pointer (some ⟨B.gv, 0, none⟩)]) ∧ w'.cell? ⟨wr.heap.size + 1 + 1 + 1, 1, none⟩ = some (.func (.func 10) #[] #[.pointer (some ⟨wr.heap.size + 1 + 1, 0, none⟩)]) ∧ w'.cell? ⟨wr.heap.size + 1 + 1 + 1, 2, none⟩ = some .nilFunc ∧ w'.cell? ⟨B.tb, N, none⟩ = some (tv N).val))) := fun W g => ap_call Bo.out Hb.out HP.out HN.out hA W g
            have HA : Hid _ := hA
            have tN0 := Hb.out.rt.cell hN3
            rw [if_pos hN3] at tN0
            have tN := hA.g.cellOf tN0 (fun e => e)
            have r0 := hA.r0
            have r1 := hA.r1
            have r2 := hA.r2
            clear hA tN0 HM
            have hwN := wrapN N (by omega)
            go_wp2_with fail
            generalize ((((wr.alloc (.cells #[.int .i64 0, .int .i64 0, .int .i64 0] 3)).alloc (.cells #[.slice (some ⟨wr.heap.size, 0, none⟩) 3 3] 23)).alloc (.cells #[.int .i64 0] 3)).alloc (.cells #[(.func (.func 11) #[] #[.pointer (some ⟨B.pv, 0, none⟩), .pointer (some ⟨wr.heap.size + 1, 0, none⟩), .pointer (some ⟨B.gv, 0, none⟩)]), .func (.func 10) #[] #[.pointer (some ⟨wr.heap.size + 1 + 1, 0, none⟩)], .nilFunc] 79)) = wx at HA HC tN r0 r1 r2 ⊢
            generalize wr.heap.size + 1 = cv at HA HC tN r0 r1 r2 ⊢
            generalize cv + 1 = ac at HA HC tN r0 r1 r2 ⊢
            generalize ac + 1 = rwb at HA HC tN r0 r1 r2 ⊢
            generalize wr.heap.size = cr at HA HC tN r0 r1 r2 ⊢
            generalize htN : tv N = tN' at HC tN
            clear htN
            obtain ⟨tN1, tN2⟩ := tN'
            unfold Ky.val at tN HC
            simp only at tN HC
            go_region_held3 (fun w' => w'.cell? ⟨rwb, 0, none⟩ = some (.func (.func 11) #[] #[.pointer (some ⟨B.pv, 0, none⟩), .pointer (some ⟨cv, 0, none⟩), .pointer (some ⟨B.gv, 0, none⟩)]) ∧ w'.cell? ⟨rwb, 1, none⟩ = some (.func (.func 10) #[] #[.pointer (some ⟨ac, 0, none⟩)]) ∧ w'.cell? ⟨rwb, 2, none⟩ = some .nilFunc ∧ w'.cell? ⟨B.tb, N, none⟩ = some (.iface tN1 (.pointer (some ⟨tN2, 0, none⟩)))) (first | exact ⟨e0, e1, e2, e3⟩ | exact ⟨r0, r1, r2, tN⟩) (first | (go_at_call 12; refine Calls.mono (HC.out _ (Grw.refl None' wx).drew) ?_; rintro e w3 ⟨s, rfl, hout, e0, e1, e2, e3⟩; have HO : Hid _ := hout; clear hout))
            clear r0 r1 r2 tN HC HA hwN e0 e1 e2 e3
            obtain ⟨D, F, hs, o1, o2, o3, o4, o5, o6, o7, o8, o9⟩ := HO.out
            clear HO
            have tg : w3.cell? ⟨B.gv, 0, none⟩ = some (.slice (some ⟨B.gr, 0, none⟩) 3 3) := o3.tgt.c
            have tgl : B.gv < w3.heap.size := World.block_lt_of_cell? _ _ tg
            have tgl1 : B.gv < w3.heap.size + 1 := by omega
            have tgl2 : B.gv < w3.heap.size + 1 + 1 := by omega
            have cv3 : w3.cell? ⟨cv, 0, none⟩ = some (.slice (some ⟨cr, 0, none⟩) 3 3) := o3.cv
            have O1 : Hid _ := o1
            have O2 : Hid _ := o2
            have O3 : Hid _ := o3
            have O4 : Hid _ := o4
            have O5 : Hid _ := o5
            have HCt : Hid (_ ∧ _) := rch_counts (envF_ok cv cr ac Hb.out.ok) HP.out (by have h := o1; rw [show N = n - 1 by have := HN.out; omega] at h; exact h) o4 o9
            have O6 : Hid (CntAt w3 ac (wa : Int)) := by have h := o6; rw [HCt.out.2] at h; exact h
            have O7 : Hid (∀ k, k < 3 → w3.cell? ⟨cr, k, none⟩ = some (.int .i64 (wq k : Int))) := fun k hk => by rw [← HCt.out.1 k hk]; exact o7.e k hk
            have O8 : Hid (∀ k, k < 3 → w3.cell? ⟨wb, k, none⟩ = some (.int .i64 (wq k : Int))) := fun k hk => o8.cell hk
            have Hs : Hid _ := hs
            clear o1 o2 o3 o4 o5 o6 o7 o8 o9 HCt hs
            go_wp2_with fail
            go_region
            all_goals
              as_aux_lemma =>
                go_wp2_with fail
                first
                  | refine Calls.mono (chIn_call Hb.out (chA Bo.out Hb.out O2.out O3.out O4.out O5.out (Grw.refl _ _).drew) hN3 O1.out _ Hs.out.symm) ?_
                  | refine Calls.mono (chIn_call Hb.out (chB Bo.out Hb.out O2.out O3.out O4.out O5.out (Grw.refl _ _).drew) hN3 O1.out _ Hs.out.symm) ?_
                rintro e w4 ⟨rfl, g4⟩
                have G4 : Hid _ := g4
                clear g4
                have cv4 := G4.out.cellOf cv3 (fun e => e)
                have ac4 := G4.out.cellOf O6.out.c0 (fun e => e)
                have Cl4 : Hid (∀ k, k < 3 → w4.cell? ⟨cr, k, none⟩ = some (.int .i64 (wq k : Int))) := fun k hk => G4.out.cellOf (O7.out k hk) (fun e => e)
                have Wq4 : Hid (∀ k, k < 3 → w4.cell? ⟨wb, k, none⟩ = some (.int .i64 (wq k : Int))) := fun k hk => G4.out.cellOf (O8.out k hk) (fun e => e)
                have HGG : Hid (Grw None' w w4) := (Hb.out.g0.trans O2.out).trans G4.out
                clear cv3 O1 O2 O3 O4 O5 O6 O7 O8 G4 m58 m60 tg tgl tgl1 tgl2
                go_wp2_with fail
                go_loopg [36] 3 (fun g vk wr => CmR w4 g vk wr)
                case atStart => exact ⟨0, by omega, rfl, rfl, Grw.refl _ _⟩
                case round =>
                  obtain ⟨k, hk, hg5, rfl, hgr⟩ := hrel
                  have Hg5 : Hid _ := hg5
                  have Hgr : Hid _ := hgr
                  clear hg5 hgr
                  by_cases hk3 : k < 3
                  · have a1 := Hgr.out.cellOf cv4 (fun e => e)
                    have a2 := Hgr.out.cellOf (Cl4.out k hk3) (fun e => e)
                    have a3 := Hgr.out.cellOf (Wq4.out k hk3) (fun e => e)
                    clear cv4 ac4
                    generalize wq k = v at a2 a3
                    have hk3' : (k : Int) < 3 := by omega
                    go_wp2_with fail
                    go_quiet (fail)
                    go_wp2_with fail
                    go_roundg (3 - (k + 1))
                    case measure => rw [Hg5.out]; omega
                    case rel => exact ⟨k + 1, by omega, rfl, by go_num, Hgr.out.trans grw_dd⟩
                  · have hk3n : ¬ ((k : Int) < 3) := by omega
                    have a1 := Hgr.out.cellOf ac4 (fun e => e)
                    clear cv4 ac4
                    go_wp2_with fail
                    go_ret
                    exact ⟨rfl, HGG.out.trans Hgr.out⟩
        · as_aux_lemma =>
            obtain ⟨i', rfl⟩ : ∃ k, i = k + 1 := ⟨i - 1, by omega⟩
            obtain rfl : u28 = .int .i64 (i' : Int) := by rw [hv]; congr 1; omega
            clear hv hpos
            have hlt : i' < n := by omega
            have hin : (i' : Int) < (n : Int) := by omega
            have hi0 : (0 : Int) ≤ (i' : Int) := by omega
            have rc1 := HM.out.rr.cell hlt
            have ll1 := HM.out.rr.lt
            cases hRi : R i' with
            | false =>
              rw [hRi] at rc1
              go_wp2_with fail
              go_roundg i'
              case measure => rw [Hg.out]; omega
              case rel => exact ⟨i', R, wq, wa, by omega, rfl, by go_num, rfl, rchP_skip HP.out hlt hRi, HM.out⟩
            | true =>
              rw [hRi] at rc1
              have kc0 := Hb.out.rc.cell hlt
              rw [if_pos hlt] at kc0
              have kc1 := HM.out.g.cellOf kc0 (fun e => e)
              obtain ⟨ao, kc, hkv, hle, hrow⟩ := rowK_form (Hb.out.ck i' hlt)
              have hkv' : kv i' = .slice ao (npZ z i') kc := hkv
              have Hrow : Hid (0 < npZ z i' → ∃ g, ao = some ⟨g, 0, none⟩ ∧ FB B wB.heap.size g ∧ ∀ j, j < npZ z i' → wB.cell? ⟨g, j, none⟩ = some (.int .i64 (kdZ z i' j : Int))) := hrow
              have hle' : npZ z i' ≤ kc := hle
              clear hkv hrow hle
              rw [hkv'] at kc0 kc1
              have Kc0 : Hid _ := kc0
              clear kc0 hkv'
              have hm4 := npZ_le z i'
              generalize hmz : npZ z i' = m at *
              have Hmz : Hid _ := hmz
              clear hmz
              go_wp2_with fail
              go_loopg [273] m (fun g vl wr2 => RiR z n i' wB rb wb R wq g vl wr2)
              case atStart => exact ⟨0, R, Nat.zero_le _, by rw [Hmz.out]; rfl, rfl, rchI_init HP.out, HM.out⟩
              case round =>
                clear HM rc1 kc1
                obtain ⟨l, R', hl, hg2, rfl, hI, hM2⟩ := hrel
                rw [Hmz.out] at hl hg2
                have Hg2 : Hid _ := hg2
                have HI : Hid _ := hI
                have HM : Hid _ := hM2
                clear hg2 hI hM2
                by_cases hll : l < m
                · obtain ⟨gk, rfl, hFk, hcl⟩ := Hrow.out (by omega)
                  have x1 := HM.out.g.cellOf (hcl l hll) (fun e => e)
                  have hci : kdZ z i' l < i' := npZ_kd (by rw [Hmz.out]; exact hll)
                  have Hcz : Hid (∃ c, c = kdZ z i' l) := ⟨_, rfl⟩
                  have x2 := HM.out.rr.cell (i := kdZ z i' l) (by omega)
                  have x3 := HM.out.rr.frozen (kdZ z i' l)
                  generalize hcz : kdZ z i' l = c at *
                  have Hcz : Hid _ := hcz
                  clear hcz hcl hFk
                  have hcn : (c : Int) < (n : Int) := by omega
                  have hlm : (l : Int) < (m : Int) := by omega
                  go_wp2_with fail
                  go_roundg (m - (l + 1))
                  case measure => rw [Hg2.out]; omega
                  case rel => exact ⟨l + 1, _, by rw [Hmz.out]; omega, by rw [Hmz.out], by go_num, HI.out.step hlt hRi (by rw [Hmz.out]; exact hll) c Hcz.out, HM.out.setR c⟩
                · obtain rfl : m = l := by omega
                  have HI' : Hid (RchI z n i' (npZ z i') R R') := by rw [Hmz.out]; exact HI.out
                  have kb0 := Hb.out.rk.cell hlt
                  rw [if_pos hlt] at kb0
                  rcases (by have := kindZ_lt z i'; omega : kindZ z i' = 1 ∨ kindZ z i' = 3 ∨ (kindZ z i' = 0 ∨ kindZ z i' = 2)) with q | q | q
                  · rw [q] at kb0
                    have kb1 : wr.cell? ⟨B.kb, i', none⟩ = some (.int .i64 1) := HM.out.g.cellOf kb0 (fun e => e)
                    have Hq : Hid _ := q
                    clear q kb0
                    cases use with
                    | false =>
                      go_wp2_with fail
                      go_roundg i'
                      case measure => rw [Hg.out]; omega
                      case rel =>
                        have q := Hq.out
                        exact ⟨i', R', wq, wa, by omega, rfl, by go_num, rfl, rchP_next HP.out hlt hRi HI'.out (fun x hx => by rw [if_neg (by simp)]) (by rw [if_neg (by omega)]; rfl), HM.out⟩
                    | true =>
                      have pb0 := Hb.out.rp.cell hlt
                      rw [if_pos ⟨hlt, Hq.out⟩] at pb0
                      have pb1 := HM.out.g.cellOf pb0 (fun e => e)
                      have hpx : pZ z i' < 3 := by unfold pZ; omega
                      have x2 := HM.out.rq.cell hpx
                      have x3 := HM.out.rq.frozen (pZ z i')
                      clear pb0
                      generalize hpz : pZ z i' = px at *
                      have Hpz : Hid _ := hpz
                      clear hpz
                      have hpn : (px : Int) < 3 := by omega
                      have hkw : B.kb ≠ wb := by have := HM.out.b2; have := Hb.out.s1; have := Bo.out.kb; omega
                      have hkw' := hkw.symm
                      go_wp2_with fail
                      go_roundg i'
                      case measure => rw [Hg.out]; omega
                      case rel =>
                        have q := Hq.out
                        refine ⟨i', R', fun x => if x = px then 1 else wq x, wa, by omega, rfl, by go_num, rfl, rchP_next HP.out hlt hRi HI'.out (fun x hx => ?_) (by rw [if_neg (by omega)]; rfl), HM.out.setW px⟩
                        by_cases e : x = px
                        · rw [if_pos e, if_pos ⟨rfl, q, by rw [Hpz.out, e]⟩]
                        · rw [if_neg e, if_neg (fun e2 => e (by rw [← Hpz.out]; exact e2.2.2.symm))]
                  · rw [q] at kb0
                    have kb1 : wr.cell? ⟨B.kb, i', none⟩ = some (.int .i64 3) := HM.out.g.cellOf kb0 (fun e => e)
                    have Hq : Hid _ := q
                    have hmm : m = 2 * mZ z i' := by rw [← Hmz.out]; unfold npZ; rw [if_neg (by omega), if_pos q]
                    have hm3 := mZ_lt z i'
                    clear q kb0
                    generalize hmd : mZ z i' = mm at *
                    have Hmd : Hid _ := hmd
                    have qd : Int.tdiv (m : Int) 2 = (mm : Int) := by rw [Int.tdiv_eq_ediv_of_nonneg (by omega)]; omega
                    have qe : (m : Int) / 2 = (mm : Int) := by omega
                    have Hmm : Hid _ := hmm
                    clear hmm hmd
                    have hwa := HP.out.wa_le
                    have hn := Hn.out.2
                    have kc1 := HM.out.g.cellOf Kc0.out (fun e => e)
                    go_wp2_with fail
                    go_roundg i'
                    case measure => rw [Hg.out]; omega
                    case rel =>
                      have q := Hq.out
                      exact ⟨i', R', wq, wa + mm, by omega, rfl, by go_num, by go_num, rchP_next HP.out hlt hRi HI'.out (fun x hx => by rw [if_neg (by omega)]) (by rw [if_pos q, Hmd.out]), HM.out⟩
                  · have kb1 := HM.out.g.cellOf kb0 (fun e => e)
                    have Hq : Hid (kindZ z i' ≠ 1 ∧ kindZ z i' ≠ 3) := ⟨by omega, by omega⟩
                    have q1 : ((kindZ z i' : Int) == 1) = false := by simp; omega
                    have q2 : ((kindZ z i' : Int) == 3) = false := by simp; omega
                    clear q kb0
                    generalize hkk : kindZ z i' = kk at *
                    have Hkk : Hid _ := hkk
                    clear hkk
                    go_wp2_with fail
                    go_roundg i'
                    case measure => rw [Hg.out]; omega
                    case rel =>
                      have q := Hq.out
                      exact ⟨i', R', wq, wa, by omega, rfl, by go_num, rfl, rchP_next HP.out hlt hRi HI'.out (fun x hx => by rw [if_neg (by rw [Hkk.out]; omega)]) (by rw [if_neg (by rw [Hkk.out]; omega)]; rfl), HM.out⟩
end Go.Proofs.Ybulkbebo
