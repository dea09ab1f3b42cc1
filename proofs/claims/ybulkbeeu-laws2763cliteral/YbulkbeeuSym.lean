/- The law of symmetry: the walk. -/
import Derived.Test.YbulkbeeuBuild
import Derived.Test.YbulkbeeuOver
namespace Go.Proofs.Ybulkbeeu
open Go.RowKit
set_option linter.unusedSimpArgs false
set_option linter.unusedVariables false

theorem GlobAt.lift {w w' : World} {bb g : Nat} {M : Mach} {so co : Option Addr} {sc cc : Nat} (h : GlobAt w w.heap.size w.heap.size g M so co sc cc) (hg : w.grownBy w' none) (hb : w.heap.size ≤ bb) :
    GlobAt w' w'.heap.size bb g M so co sc cc := by
  have a1 := h.gB; have a2 := hg.size
  have hc : ∀ k o, k < w.heap.size → w'.cell? ⟨k, o, none⟩ = w.cell? ⟨k, o, none⟩ := fun k o h1 => World.cell?_of_block (a := ⟨k, o, none⟩) (hg.block k h1 (by simp))
  refine ⟨by omega, by omega, (hc g 0 h.gB).trans h.cs, (hc g 2 h.gB).trans h.cc, fun i hi => ?_, fun i hi => ?_⟩
  · obtain ⟨b, e, h1, h2, s0, s1, s2, s3⟩ := h.st i hi
    exact ⟨b, e, by omega, by omega, (hc b _ h1).trans s0, (hc b _ h1).trans s1, (hc b _ h1).trans s2, (hc b _ h1).trans s3⟩
  · obtain ⟨b, e, h1, h2, s0, s1, s2, s3⟩ := h.cl i hi
    exact ⟨b, e, by omega, by omega, (hc b _ h1).trans s0, (hc b _ h1).trans s1, (hc b _ h1).trans s2, (hc b _ h1).trans s3⟩

theorem kind_cases (v : Int) : kindSt v = ⟨0, 97, 0⟩ ∨ kindSt v = ⟨0, 98, 0⟩ ∨ kindSt v = ⟨0, 47, 0⟩ ∨ kindSt v = ⟨1, 0, 0⟩ ∨ kindSt v = ⟨1, 0, 1⟩ ∨ kindSt v = ⟨2, 0, 1⟩ := by
  unfold kindSt
  repeat' split
  all_goals simp

theorem mk_at (vs : List Int) (i : Nat) (hi : i < (mk vs).n) : ∃ v, (mk vs).at i = kindSt v := by
  have hi' : i < vs.length := by simpa [mk, Mach.n] using hi
  refine ⟨vs[i], ?_⟩
  unfold Mach.at mk
  rw [List.getD_eq_getElem?_getD, List.getElem?_map, List.getElem?_eq_getElem hi']
  rfl

theorem mk_ok (vs : List Int) (h : vs.length ≤ 256) : (mk vs).Ok := by
  refine ⟨by simp [mk, Mach.n]; omega, fun i hi => ?_, fun i hi h0 => ?_, fun i hi h0 => ?_, fun i hi => ?_⟩
  · obtain ⟨v, e⟩ := mk_at vs i hi
    rw [e]
    rcases kind_cases v with e | e | e | e | e | e <;> rw [e] <;> simp
  · obtain ⟨v, e⟩ := mk_at vs i hi
    rw [e] at h0 ⊢
    rcases kind_cases v with e | e | e | e | e | e <;> rw [e] at h0 ⊢ <;> simp at h0 ⊢
  · obtain ⟨v, e⟩ := mk_at vs i hi
    rw [e] at h0 ⊢
    rcases kind_cases v with e | e | e | e | e | e <;> rw [e] at h0 ⊢ <;> simp [mk] at h0 ⊢
  · have hi' : i < 2 := hi
    match i, hi' with
    | 0, _ => simp [mk, Mach.cls, clsA]
    | 1, _ => simp [mk, Mach.cls, clsB]

theorem mk_ne (vs : List Int) (i : Nat) (hi : i < (mk vs).n) : ((mk vs).set i).w0 ≠ 0 ∨ ((mk vs).set i).w1 ≠ 0 := by
  obtain ⟨v, e⟩ := mk_at vs i hi
  unfold Mach.set
  rw [e]
  rcases kind_cases v with e | e | e | e | e | e <;> rw [e] <;> simp [bset, mk, Mach.cls, clsA, clsB]

set_option maxRecDepth 100000 in
set_option maxHeartbeats 2000000 in
theorem sym_long (w : World) (a0 a1 : Option Addr) (len0 cap0 len1 cap1 : Nat) (h : 256 < len0 ∨ 256 < len1) :
    Calls Yba.prog 4 #[.slice a0 len0 cap0, .slice a1 len1 cap1] w fun e w' => e = .returned (.bool true) ∧ w.grownBy w' none := by
  have h0 : w.grownBy w none := grown_aft w ⟨[], 0⟩ none
  have h1 : w.grownBy w.drew none := grown_aft w ⟨[], 1⟩ none
  have H0 : Hid _ := h0
  have H1 : Hid _ := h1
  clear h0 h1
  by_cases h2 : 256 < len0
  · clear h
    go_enter Yba.func4, Yba.ntmps4
    go_wp2
    go_ret
    exact ⟨rfl, H0.out⟩
  · have h3 : 256 < len1 := by omega
    clear h
    go_enter Yba.func4, Yba.ntmps4
    go_wp2
    go_ret
    exact ⟨rfl, H0.out⟩

def bud3 (w : World) : World := ((w.alloc (.cells #[.int .i64 1073741824] 3)).alloc (.cells #[.int .i64 1073741824] 3)).alloc (.cells #[.int .i64 1073741824] 3)

structure Bud3 (w w' : World) : Prop where
  gr : w.grownBy w' none
  sz : w'.heap.size = w.heap.size + 3
  c0 : w'.cell? ⟨w.heap.size, 0, none⟩ = some (.int .i64 1073741824)
  c1 : w'.cell? ⟨w.heap.size + 1, 0, none⟩ = some (.int .i64 1073741824)
  c2 : w'.cell? ⟨w.heap.size + 1 + 1, 0, none⟩ = some (.int .i64 1073741824)
  f0 : w'.frozen? ⟨w.heap.size, 0, none⟩ = false
  f1 : w'.frozen? ⟨w.heap.size + 1, 0, none⟩ = false
  f2 : w'.frozen? ⟨w.heap.size + 1 + 1, 0, none⟩ = false

theorem bud3_of (w : World) : Bud3 w (bud3 w) := by
  refine ⟨grown_aft w ⟨[.cells #[.int .i64 1073741824] 3, .cells #[.int .i64 1073741824] 3, .cells #[.int .i64 1073741824] 3], 0⟩ none, ?_, ?_, ?_, ?_, ?_, ?_, ?_⟩
  · simp [bud3, go_sem]
  all_goals (unfold bud3; go_simp)

theorem budget_world (w : World) (b b2 b3 : Int) : w.grownBy (((w.alloc (.cells #[.int .i64 b] 3)).alloc (.cells #[.int .i64 b2] 3)).alloc (.cells #[.int .i64 b3] 3)) none :=
  grown_aft w ⟨[.cells #[.int .i64 b] 3, .cells #[.int .i64 b2] 3, .cells #[.int .i64 b3] 3], 0⟩ none

set_option maxRecDepth 100000 in
set_option maxHeartbeats 2000000 in
theorem sym_short (w : World) (a0 a1 : Option Addr) (len0 cap0 len1 cap1 : Nat) (z0 z1 : List Int) (h0 : RowAt w a0 len0 z0) (h1 : RowAt w a1 len1 z1) (l0 : len0 ≤ 256) (l1 : len1 ≤ 256) :
    Calls Yba.prog 4 #[.slice a0 len0 cap0, .slice a1 len1 cap1] w fun e w' => e = .returned (.bool true) ∧ w.grownBy w' none := by
  obtain ⟨M, hM⟩ : ∃ M, mk (z0.take len0) = M := ⟨_, rfl⟩
  obtain ⟨N, hN⟩ : ∃ N, mk (z1.take len1) = N := ⟨_, rfl⟩
  have okM : M.Ok := by rw [← hM]; exact mk_ok _ (by simp; omega)
  have okN : N.Ok := by rw [← hN]; exact mk_ok _ (by simp; omega)
  have hself : Meet M M := by rw [← hM]; exact Meet_self (mk_ne _)
  have hb1 := build_any w a0 len0 cap0 z0 h0 l0
  have hb2 := fun w' (hg : w.grownBy w' none) => build_any w' a1 len1 cap1 z1 (h1.grown hg) l1
  rw [hM] at hb1
  rw [hN] at hb2
  have Hb1 : Hid _ := hb1
  have Hb2 : Hid _ := hb2
  have Hself : Hid _ := hself
  clear hb1 hb2 hself hM hN h0 h1
  go_enter Yba.func4, Yba.ntmps4
  go_wp2_with fail
  refine Calls.mono Hb1.out ?_
  rintro e w1 ⟨G1, so, co, sc, cc, rfl, g1, p1, A1⟩
  go_wp2_with fail
  refine Calls.mono (Hb2.out w1 g1) ?_
  rintro e w2 ⟨G2, so', co', sc', cc', rfl, g2, p2, A2⟩
  have hB3 := bud3_of w2
  have HB3 : Hid _ := hB3
  clear hB3
  go_wp2_with fail
  change Calls _ _ _ (bud3 w2) _
  have hB3 := HB3.out
  clear HB3
  generalize bud3 w2 = w3 at *
  have g12 : w1.grownBy w3 none := grown_trans g2 hB3.gr
  have s2 := hB3.sz
  have s1 := g2.size
  have o1 := over_any w3 w2.heap.size G1 G1 M M so co so co sc cc sc cc okM okM (A1.lift g12 (by omega)) (A1.lift g12 (by omega)) (by omega) hB3.c0 hB3.f0
  refine Calls.mono o1 ?_
  clear o1
  rintro e w4 ⟨t1, rfl, ht1, g4, _⟩
  obtain rfl : t1 = true := ht1.2 Hself.out
  clear ht1 Hself
  have g14 : w1.grownBy w4 none := grown_of_above g12 g4 (fun j hj => by simp at hj; omega)
  have g24 : w2.grownBy w4 none := grown_of_above hB3.gr g4 (fun j hj => by simp at hj; omega)
  have s4 := g4.size
  have o2 := over_any w4 (w2.heap.size + 1) G1 G2 M N so co so' co' sc cc sc' cc' okM okN (A1.lift g14 (by omega)) (A2.lift g24 (by omega)) (by omega) (g4.cell hB3.c1 (by simp)) ((g4.frozen_far ⟨w2.heap.size + 1, 0, none⟩ (by show w2.heap.size + 1 < _; omega) (by simp)).trans hB3.f1)
  have Ho2 : Hid _ := o2
  clear o2
  go_wp2_with fail
  refine Calls.mono Ho2.out ?_
  clear Ho2
  rintro e w5 ⟨t2, rfl, ht2, g5, _⟩
  have g15 : w1.grownBy w5 none := grown_of_above g14 g5 (fun j hj => by simp at hj; omega)
  have g25 : w2.grownBy w5 none := grown_of_above g24 g5 (fun j hj => by simp at hj; omega)
  have s5 := g5.size
  have c5 := g5.cell (g4.cell hB3.c2 (by simp; omega)) (by simp)
  have f5 := (g5.frozen_far ⟨w2.heap.size + 1 + 1, 0, none⟩ (by show w2.heap.size + 1 + 1 < _; omega) (by simp)).trans ((g4.frozen_far ⟨w2.heap.size + 1 + 1, 0, none⟩ (by show w2.heap.size + 1 + 1 < _; omega) (by simp; omega)).trans hB3.f2)
  have o3 := over_any w5 (w2.heap.size + 1 + 1) G2 G1 N M so' co' so co sc' cc' sc cc okN okM (A2.lift g25 (by omega)) (A1.lift g15 (by omega)) (by omega) c5 f5
  have Ho3 : Hid _ := o3
  have Ht2 : Hid _ := ht2
  clear o3 ht2 c5 f5
  go_wp2_with fail
  refine Calls.mono Ho3.out ?_
  clear Ho3
  rintro e w6 ⟨t3, rfl, ht3, g6, _⟩
  have g16 : w1.grownBy w6 none := grown_of_above g15 g6 (fun j hj => by simp at hj; omega)
  obtain rfl : t3 = t2 := by
    have a1 := ht3
    have a2 := Ht2.out
    cases t3 <;> cases t2 <;> simp at a1 a2 ⊢
    · exact a1 (Meet_swap a2)
    · exact a2 (Meet_swap a1)
  clear ht3 Ht2
  have g06 : Hid (w.grownBy w6 none) := grown_trans g1 g16
  go_wp2_with fail
  go_ret
  exact ⟨rfl, g06.out⟩
end Go.Proofs.Ybulkbeeu
