/- The law of literals: the walk. -/
import Derived.Test.YbulkbeeuStar
import Derived.Test.YbulkbeeuSym
namespace Go.Proofs.Ybulkbeeu
open Go.RowKit
set_option linter.unusedSimpArgs false
set_option linter.unusedVariables false

set_option maxRecDepth 100000 in
set_option maxHeartbeats 2000000 in
theorem lit_long (w : World) (s t : ByteArray) (st : Bool) (h : 256 < s.size ∨ 256 < t.size) :
    Calls Yba.prog 3 #[.string s, .string t, .bool st] w fun e w' => e = .returned (.bool true) ∧ w.grownBy w' none := by
  have h0 : w.grownBy w none := grown_aft w ⟨[], 0⟩ none
  have H0 : Hid _ := h0
  clear h0
  by_cases h2 : 256 < s.size
  · clear h
    go_enter Yba.func3, Yba.ntmps3
    go_wp2
    go_ret
    exact ⟨rfl, H0.out⟩
  · have h3 : 256 < t.size := by omega
    clear h
    go_enter Yba.func3, Yba.ntmps3
    go_wp2
    go_ret
    exact ⟨rfl, H0.out⟩

def gsOf (s : ByteArray) : List Nat := s.data.toList.map UInt8.toNat

theorem map_toNat_inj {a b : List UInt8} (h : a.map UInt8.toNat = b.map UInt8.toNat) : a = b := by
  induction a generalizing b with
  | nil => cases b with
    | nil => rfl
    | cons y b => simp at h
  | cons x a ih => cases b with
    | nil => simp at h
    | cons y b =>
      simp at h
      rw [ih h.2, UInt8.toNat_inj.1 h.1]

theorem want_eq (s t : ByteArray) : wantB (gsOf s) (gsOf t) false = (s.toList == t.toList) := by
  rw [ByteArray.toList_eq, ByteArray.toList_eq]
  unfold wantB gsOf
  by_cases e : s.data.toList = t.data.toList
  · simp [e]
  · have : ¬ s.data.toList.map UInt8.toNat = t.data.toList.map UInt8.toNat := fun h => e (map_toNat_inj h)
    simp [this]
    exact fun h => e (by rw [h])

theorem want_pre (s t : ByteArray) : wantB (gsOf s) (gsOf t) true = decide (s.size ≤ t.size ∧ s.data.toList = t.data.toList.take s.size) := by
  unfold wantB gsOf
  rw [if_pos rfl]
  have e1 : (s.data.toList.map UInt8.toNat).length = s.size := by rw [List.length_map]; rfl
  have e2 : (t.data.toList.map UInt8.toNat).length = t.size := by rw [List.length_map]; rfl
  rw [e1, e2, ← List.map_take]
  apply decide_eq_decide.2
  constructor
  · rintro ⟨h1, h2⟩; exact ⟨h1, map_toNat_inj h2⟩
  · rintro ⟨h1, h2⟩; exact ⟨h1, congrArg _ h2⟩

theorem abc_of {s t : ByteArray} (h : t.data.toList.map UInt8.toNat = s.data.toList.map litB) : Abc (gsOf t) := by
  intro b hb
  unfold gsOf at hb
  rw [h, List.mem_map] at hb
  obtain ⟨x, _, rfl⟩ := hb
  unfold litB
  omega

theorem size_of {s t : ByteArray} (h : t.data.toList.map UInt8.toNat = s.data.toList.map litB) : t.size = s.size := by
  have := congrArg List.length h
  rw [List.length_map, List.length_map] at this
  exact this

theorem lit_states (t : ByteArray) : t.data.toList.map (fun b => litS b.toNat) = (gsOf t).map litS := by
  unfold gsOf
  rw [List.map_map]
  rfl

theorem star_mid {w2 w3 w4 wa w' w1 w1' : World} {G1 G2 k c : Nat} {l l2 : List St} {so so' : Option Addr} {sc sc' : Nat} (hA1 : Made w2 w3 w1 G1 (G1 + 1) (.slice none 0 0) l so sc)
    (hA2 : Made w3 w4 w1' G2 (G2 + 1) (.slice none 0 0) l2 so' sc') (ga : w4.grownBy wa none) (hC : wa.grownBy w' none ∧ wa.heap.size ≤ k ∧ k < w'.heap.size ∧ ClAt w' k 0 clsC) :
    Made w2 (w'.setCell ⟨G1, 2, none⟩ (.slice (some ⟨k, 0, none⟩) 1 c)) w' G1 (G1 + 1) (.slice (some ⟨k, 0, none⟩) 1 c) l so sc := by
  have g := grown_trans hA2.gr (grown_trans ga hC.1)
  exact (hA1.later (fun k _ hk => g.block k hk (by simp)) g.size (grown_trans hA1.gr g) hA1.g0).setc2 _

theorem star_done {w2 w3 w4 wa w' w1 w1' w5 w6 : World} {G1 G2 k c : Nat} {l l2 : List St} {so so' so2 : Option Addr} {sc sc' sc2 : Nat} {v v2 : Value} {o : Obj} {st : St} (hA1 : Made w2 w3 w1 G1 (G1 + 1) (.slice none 0 0) l so sc)
    (hA2 : Made w3 w4 w1' G2 (G2 + 1) (.slice none 0 0) l2 so' sc') (ga : w4.grownBy wa none) (hC : wa.grownBy w' none ∧ wa.heap.size ≤ k ∧ k < w'.heap.size ∧ ClAt w' k 0 clsC)
    (hG : ((w'.setCell ⟨G1, 2, none⟩ v2).alloc o).grownBy w6 (Value.slice so l.length sc).ownBlock)
    (hM : Made w2 (w6.setCell ⟨G1, 0, none⟩ v) w5 G1 (G1 + 1) (.slice (some ⟨k, 0, none⟩) 1 c) (l ++ [st]) so2 sc2) :
    GlobAt (w6.setCell ⟨G1, 0, none⟩ v) (w6.setCell ⟨G1, 0, none⟩ v).heap.size (w6.setCell ⟨G1, 0, none⟩ v).heap.size G1 ⟨l ++ [st], [clsC]⟩ so2 (some ⟨k, 0, none⟩) sc2 c ∧
    GlobAt (w6.setCell ⟨G1, 0, none⟩ v) (w6.setCell ⟨G1, 0, none⟩ v).heap.size (w6.setCell ⟨G1, 0, none⟩ v).heap.size G2 ⟨l2, []⟩ so' none sc' 0 ∧ w2.grownBy (w6.setCell ⟨G1, 0, none⟩ v) none := by
  obtain ⟨g1, hk1, hk2, hcl⟩ := hC
  have a1 := hA1.gb; have a2 := hA1.bs; have a3 := hA2.gb; have a4 := hA2.bs; have a5 := hA2.g0; have a6 := hA2.gr.size; have a7 := ga.size; have a8 := g1.size; have a9 := hA1.g0; have a10 := hA1.gr.size
  have z1 := (grown_setCell w' ⟨G1, 2, none⟩ v2).size
  have z2 : (w'.setCell ⟨G1, 2, none⟩ v2).heap.size ≤ ((w'.setCell ⟨G1, 2, none⟩ v2).alloc o).heap.size := by simp [go_sem]
  have z3 := hG.size
  have z4 := (grown_setCell w6 ⟨G1, 0, none⟩ v).size
  have hown : ∀ j, (Value.slice so l.length sc).ownBlock = some j → j < w3.heap.size := fun j hj => (hA1.own.lt j hj).2
  have hkeep : ∀ j, w3.heap.size ≤ j → j < w'.heap.size → (w6.setCell ⟨G1, 0, none⟩ v).heap[j]? = w'.heap[j]? := fun j h1 h2 => by
    rw [Below.heap_setCell w6 ⟨G1, 0, none⟩ v j (by show j ≠ G1; omega), hG.block j (by omega) (fun e => by have := hown j e.symm; omega), Below.heap_alloc _ _ _ (by omega), Below.heap_setCell w' ⟨G1, 2, none⟩ v2 j (by show j ≠ G1; omega)]
  refine ⟨?_, ?_, hM.gr⟩
  · refine Made.glob2 (cl := [clsC]) (cb := k) hM (fun i hi => ?_)
    have hi' : i < 1 := hi
    obtain rfl : i = 0 := by omega
    have e := hkeep k (by omega) hk2
    obtain ⟨s0, s1, s2, s3⟩ := hcl
    exact ⟨rfl, by omega, (cell_same e _).trans s0, (cell_same e _).trans s1, (cell_same e _).trans s2, (cell_same e _).trans s3⟩
  · have hL : Made w2 (w6.setCell ⟨G1, 0, none⟩ v) (w6.setCell ⟨G1, 0, none⟩ v) G2 (G2 + 1) (.slice none 0 0) l2 so' sc' :=
      hA2.later (fun j h1 h2 => by
        rw [hkeep j (by omega) (by omega)]
        exact (grown_trans ga g1).block j h2 (by simp)) (by omega) hM.gr (by omega)
    exact Made.glob2 (cl := []) (cb := 0) (cc := 0) (co := none) hL (fun i hi => by simp at hi)

set_option maxRecDepth 100000 in
set_option maxHeartbeats 2000000 in
theorem lit_plain (w : World) (s t : ByteArray) (l0 : s.size ≤ 256) (l1 : t.size ≤ 256) :
    Calls Yba.prog 3 #[.string s, .string t, .bool false] w fun e w' => e = .returned (.bool true) ∧ w.grownBy w' none := by
  have Hc0 : Hid _ := clit_any w s l0
  have Hc1 : Hid _ := fun w' => clit_any w' t l1
  go_enter Yba.func3, Yba.ntmps3
  go_wp2_with fail
  refine Calls.mono Hc0.out ?_
  rintro e w1 ⟨gs, rfl, egs, g1⟩
  have Hegs : Hid _ := egs
  have lgs : gs.size ≤ 256 := by rw [size_of egs]; exact l0
  clear egs Hc0
  go_wp2_with fail
  refine Calls.mono (Hc1.out _) ?_
  rintro e w2 ⟨hs, rfl, ehs, g2⟩
  have Hehs : Hid _ := ehs
  have lhs : hs.size ≤ 256 := by rw [size_of ehs]; exact l1
  clear ehs Hc1
  have Hd1 : Hid _ := cglob_any w2 gs lgs
  have Hd2 : Hid _ := fun w' => cglob_any w' hs lhs
  go_wp2_with fail
  refine Calls.mono Hd1.out ?_
  rintro e w3 ⟨G1, so, sc, _, rfl, _, A1⟩
  clear Hd1
  go_wp2_with fail
  refine Calls.mono (Hd2.out _) ?_
  rintro e w4 ⟨G2, so', sc', _, rfl, _, A2⟩
  clear Hd2
  rw [lit_states] at A1 A2
  have okM := lit_ok (gsOf gs) false (abc_of Hegs.out) (by unfold gsOf; rw [List.length_map]; exact lgs)
  have okN := lit_ok (gsOf hs) false (abc_of Hehs.out) (by unfold gsOf; rw [List.length_map]; exact lhs)
  have law := lit_law (gsOf gs) (gsOf hs) false (abc_of Hegs.out) (abc_of Hehs.out)
  rw [want_eq] at law
  have Hlaw : Hid _ := law
  clear law
  have s3 := A1.gr.size
  have s4 := A2.gr.size
  have A1' : Made w2 w4 w4 G1 (G1 + 1) (.slice none 0 0) _ so sc := A1.later (fun k _ hk => A2.gr.block k hk (by simp)) s4 (grown_trans A1.gr A2.gr) A1.g0
  have B1 : GlobAt w4 w4.heap.size w4.heap.size G1 (litM (gsOf gs) false) so none sc 0 := by
    have := Made.glob2 (cl := []) (cb := 0) (cc := 0) (co := none) A1' (fun i hi => by simp at hi)
    simpa [litM] using this
  have B2 : GlobAt w4 w4.heap.size w4.heap.size G2 (litM (gsOf hs) false) so' none sc' 0 := by
    have := Made.glob2 (cl := []) (cb := 0) (cc := 0) (co := none) A2 (fun i hi => by simp at hi)
    simpa [litM] using this
  have gw4 : Hid (w.grownBy w4 none) := grown_trans g1 (grown_trans g2 (grown_trans A1.gr A2.gr))
  clear A1 A2 A1'
  have gw5 : w4.grownBy (w4.alloc (.cells #[.int .i64 1073741824] 3)) none := grown_aft w4 ⟨[.cells #[.int .i64 1073741824] 3], 0⟩ none
  have c5 : (w4.alloc (.cells #[.int .i64 1073741824] 3)).cell? ⟨w4.heap.size, 0, none⟩ = some (.int .i64 1073741824) := by go_simp
  have f5 : (w4.alloc (.cells #[.int .i64 1073741824] 3)).frozen? ⟨w4.heap.size, 0, none⟩ = false := by go_simp
  have n5 : w4.heap.size < (w4.alloc (.cells #[.int .i64 1073741824] 3)).heap.size := by simp [go_sem]
  have Hov : Hid _ := over_any _ w4.heap.size G1 G2 _ _ so none so' none sc 0 sc' 0 okM okN (B1.lift gw5 (Nat.le_refl _)) (B2.lift gw5 (Nat.le_refl _)) n5 c5 f5
  have Gw5 : Hid _ := gw5
  clear gw5 c5 f5 n5 B1 B2
  go_wp2_with fail
  refine Calls.mono Hov.out ?_
  clear Hov
  rintro e w6 ⟨b, rfl, hb, g6, bud, hbud, c6⟩
  have Hgr : Hid (w.grownBy w6 none) := grown_of_above (grown_trans gw4.out Gw5.out) g6 (fun j hj => by simp at hj; have := gw4.out.size; omega)
  have Hb : Hid (b = (gs.toList == hs.toList)) := by
    show b = _
    have a1 := hb
    have a2 := Hlaw.out
    cases b <;> cases hq : (gs.toList == hs.toList) <;> simp [hq] at a1 a2 ⊢
    · exact absurd a2 a1
    · exact absurd a1 a2
  clear hb g6 Gw5 gw4 Hlaw okM okN
  have hbe : (b == (gs.toList == hs.toList)) = true := by rw [Hb.out]; simp
  have l6 : w4.heap.size < w6.heap.size := World.block_lt_of_cell? _ _ c6
  go_wp2_with fail
  go_ret
  exact ⟨rfl, Hgr.out⟩

set_option maxRecDepth 100000 in
set_option maxHeartbeats 2000000 in
theorem lit_star (w : World) (s t : ByteArray) (l0 : s.size ≤ 256) (l1 : t.size ≤ 256) :
    Calls Yba.prog 3 #[.string s, .string t, .bool true] w fun e w' => e = .returned (.bool true) ∧ w.grownBy w' none := by
  have Hc0 : Hid _ := clit_any w s l0
  have Hc1 : Hid _ := fun w' => clit_any w' t l1
  go_enter Yba.func3, Yba.ntmps3
  go_wp2_with fail
  refine Calls.mono Hc0.out ?_
  rintro e w1 ⟨gs, rfl, egs, g1⟩
  have Hegs : Hid _ := egs
  have lgs : gs.size ≤ 256 := by rw [size_of egs]; exact l0
  clear egs Hc0
  go_wp2_with fail
  refine Calls.mono (Hc1.out _) ?_
  rintro e w2 ⟨hs, rfl, ehs, g2⟩
  have Hehs : Hid _ := ehs
  have lhs : hs.size ≤ 256 := by rw [size_of ehs]; exact l1
  clear ehs Hc1
  have Hd1 : Hid _ := cglob_any w2 gs lgs
  have Hd2 : Hid _ := fun w' => cglob_any w' hs lhs
  go_wp2_with fail
  refine Calls.mono Hd1.out ?_
  rintro e w3 ⟨G1, so, sc, _, rfl, fr1, A1⟩
  clear Hd1
  go_wp2_with fail
  refine Calls.mono (Hd2.out _) ?_
  rintro e w4 ⟨G2, so', sc', _, rfl, _, A2⟩
  clear Hd2
  rw [lit_states] at A1 A2
  obtain ⟨l, hl⟩ : ∃ l, (gsOf gs).map litS = l := ⟨_, rfl⟩
  have hlen : l.length ≤ 256 := by rw [← hl, List.length_map]; unfold gsOf; rw [List.length_map]; exact lgs
  rw [hl] at A1
  have Hl : Hid _ := hl
  clear hl
  have okM := lit_ok (gsOf gs) true (abc_of Hegs.out) (by unfold gsOf; rw [List.length_map]; exact lgs)
  have okN := lit_ok (gsOf hs) false (abc_of Hehs.out) (by unfold gsOf; rw [List.length_map]; exact lhs)
  have law := lit_law (gsOf gs) (gsOf hs) true (abc_of Hegs.out) (abc_of Hehs.out)
  rw [want_pre] at law
  have Hlaw : Hid _ := law
  clear law
  have s3 := A1.gr.size
  have s4 := A2.gr.size
  have b1 := A1.gb
  have b2 := A1.bs
  have A1' : Made w2 w4 w4 G1 (G1 + 1) (.slice none 0 0) _ so sc := A1.later (fun k _ hk => A2.gr.block k hk (by simp)) s4 (grown_trans A1.gr A2.gr) A1.g0
  have fr4 : w4.frozen? ⟨G1, 2, none⟩ = false := (frozen_same (A2.gr.block G1 (by omega) (by simp)) 2).trans fr1
  have gw2 : Hid (w.grownBy w2 none) := grown_trans g1 g2
  have HA2 : Hid _ := A2
  have HA1 : Hid _ := A1
  have c42 := A1'.c2
  have hl1 : G1 < w4.heap.size := by omega
  clear A1 A2 A1' fr1 b1 b2 g1 g2
  have ga : w4.grownBy (w4.alloc (.cells #[.int .u64 0, .int .u64 60129542144, .int .u64 0, .int .u64 0] 27)).drew.drew.drew.drew none := grown_aft w4 ⟨[.cells #[.int .u64 0, .int .u64 60129542144, .int .u64 0, .int .u64 0] 27], 4⟩ none
  have Hga : Hid _ := ga
  clear ga
  go_wp2_with fail
  refine Calls.mono (add_97 _ _ 0 8589934592 (by go_simp) (by go_simp) (by decide +kernel)) ?_
  rintro e w5 ⟨rfl, rfl⟩
  go_wp2_with fail
  refine Calls.mono (add_98 _ _ 8589934592 25769803776 (by go_simp) (by go_simp) (by decide +kernel)) ?_
  rintro e w5 ⟨rfl, rfl⟩
  go_wp2_with fail
  refine Calls.mono (add_99 _ _ 25769803776 60129542144 (by go_simp) (by go_simp) (by decide +kernel)) ?_
  rintro e w5 ⟨rfl, rfl⟩
  go_wp2_with fail
  go_region_law (refine step_pushC rfl (.tmp 39) (.tmp 41) rfl (w4.alloc (.cells #[.int .u64 0, .int .u64 60129542144, .int .u64 0, .int .u64 0] 27)).drew.drew.drew.drew rfl (by simp [Act.eval, Act.put]) (by simp [Act.eval, Act.put]) ?_; intro k capC w5 hC hF; have hF1 := hF G1 (by simp [go_sem, World.drew] <;> omega); have hF2 : w5.cell? ⟨G1, 2, none⟩ = some (.slice none 0 0) := hF1.1.trans (by go_simp); have hF3 : w5.frozen? ⟨G1, 2, none⟩ = false := hF1.2.trans (by go_simp); clear hF hF1)
  all_goals
    have hmid := star_mid (c := capC) HA1.out HA2.out Hga.out hC.out
    obtain ⟨wb, hwb⟩ : ∃ wb, wb = w5.setCell ⟨G1, 2, none⟩ (.slice (some ⟨k, 0, none⟩) 1 capC) := ⟨_, rfl⟩
    rw [← hwb] at hmid ⊢
    have Hwb : Hid _ := hwb
    clear hwb hF2 hF3 c42 fr4
    have m1 := hmid.cs
    have m2 := hmid.cf
    have m3 : G1 < wb.heap.size := by have := hmid.gb; have := hmid.bs; omega
    go_wp2_with (at_builtin; refine wpList_push36g rfl (.tmp 49) (.tmp 51) rfl w2 wb w5 G1 (G1 + 1) _ l so sc hmid (by omega) ⟨2, 0, 0⟩ rfl rfl rfl ?_; intro k2 cap2 w6 hm2 c7 c8 hG)
    have hG2 : ((w5.setCell ⟨G1, 2, none⟩ (.slice (some ⟨k, 0, none⟩) 1 capC)).alloc (.cells #[.int .u8 2, .int .u8 0, .int .i64 0, .int .i64 0] 36)).grownBy w6 (Value.slice so l.length sc).ownBlock := by
      rw [← Hwb.out]; exact hG.out
    obtain ⟨B1, B2, gF⟩ := star_done HA1.out HA2.out Hga.out hC.out hG2 hm2.out
    clear hG2 hG hm2 hmid m1 m2 m3 c7 c8 HA1 HA2 Hga hC Hwb
    obtain ⟨wF, hwF⟩ : ∃ wF, wF = w6.setCell ⟨G1, 0, none⟩ (.slice (some ⟨k2, 0, none⟩) (l.length + 1) cap2) := ⟨_, rfl⟩
    have hsz : w6.heap.size = wF.heap.size := by rw [hwF]; simp
    rw [← hwF] at B1 B2 gF ⊢
    rw [hsz]
    clear hwF hsz
    have e1 : (⟨l ++ [⟨2, 0, 0⟩], [clsC]⟩ : Mach) = litM (gsOf gs) true := by simp [litM, Hl.out]
    have e2 : (⟨(gsOf hs).map litS, []⟩ : Mach) = litM (gsOf hs) false := by simp [litM]
    rw [e1] at B1
    rw [e2] at B2
    clear e1 e2
    have gw4 : Hid (w.grownBy wF none) := grown_trans gw2.out gF
    clear gF gw2
    have gw5 : wF.grownBy (wF.alloc (.cells #[.int .i64 1073741824] 3)) none := grown_aft wF ⟨[.cells #[.int .i64 1073741824] 3], 0⟩ none
    have c5 : (wF.alloc (.cells #[.int .i64 1073741824] 3)).cell? ⟨wF.heap.size, 0, none⟩ = some (.int .i64 1073741824) := by go_simp
    have f5 : (wF.alloc (.cells #[.int .i64 1073741824] 3)).frozen? ⟨wF.heap.size, 0, none⟩ = false := by go_simp
    have n5 : wF.heap.size < (wF.alloc (.cells #[.int .i64 1073741824] 3)).heap.size := by simp [go_sem]
    have Hov : Hid _ := over_any _ wF.heap.size G1 G2 _ _ _ _ so' none _ _ sc' 0 okM okN (B1.lift gw5 (Nat.le_refl _)) (B2.lift gw5 (Nat.le_refl _)) n5 c5 f5
    have Gw5 : Hid _ := gw5
    clear gw5 c5 f5 n5 B1 B2
    refine Calls.mono Hov.out ?_
    clear Hov
    rintro e w7 ⟨b, rfl, hb, g6, bud, hbud, c6⟩
    have Hgr : Hid (w.grownBy w7 none) := grown_of_above (grown_trans gw4.out Gw5.out) g6 (fun j hj => by simp at hj; have := gw4.out.size; omega)
    obtain ⟨q, hq⟩ : ∃ q, decide (gs.size ≤ hs.size ∧ gs.data.toList = hs.data.toList.take gs.size) = q := ⟨_, rfl⟩
    have hpre := prefix_any w7 hs gs
    rw [hq] at hpre
    have Hpre : Hid _ := hpre
    clear hpre
    obtain rfl : b = q := by
      have a1 := hb
      have a2 := Hlaw.out
      rw [hq] at a2
      cases b <;> cases q <;> simp at a1 a2 ⊢
      · exact absurd a2 a1
      · exact absurd a1 a2
    clear hb g6 Gw5 gw4 Hlaw okM okN hq
    have l6 : wF.heap.size < w7.heap.size := World.block_lt_of_cell? _ _ c6
    go_wp2_with fail
    refine Calls.mono Hpre.out ?_
    rintro e w8 ⟨rfl, rfl⟩
    go_wp2_with fail
    go_ret
    exact ⟨rfl, Hgr.out⟩
end Go.Proofs.Ybulkbeeu
