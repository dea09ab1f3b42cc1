/- newPairSet, (*pairSet).add: the set of pairs that have been seen, a bit for each. -/
import Derived.Test.YbulkbeeuPass
import Derived.Deep.OwnRows
import Derived.Lib.SliceRun
namespace Go.Proofs.Ybulkbeeu
open Go.RowKit
set_option linter.unusedSimpArgs false
set_option linter.unusedVariables false
theorem Yba.i25 : (Yba.prog.info? 25).map (fun i => (i.zero, i.size, i.bytes)) = some (some (.int .u64 0), 1, 8) := by kernel_rfl

set_option maxHeartbeats 400000 in
theorem newPairSet_any (xs ys : Nat) (hx : xs ≤ 258) (hy : ys ≤ 258) (w : World) (L : Nat) (hL : (4 * xs * ys + 63) / 64 = L) :
    Calls Yba.prog 11 #[.int .i64 xs, .int .i64 ys] w fun e w' => e = .returned (.pointer (some ⟨w.heap.size + 1, 0, none⟩)) ∧
      w' = (w.alloc (.cells (madeCells #[.int .u64 0] L) 25)).alloc (.cells #[.int .i64 ys, .slice (some ⟨w.heap.size, 0, none⟩) L L, .map none] 64) := by
  have hp0 : 4 * xs * ys ≤ 4 * 258 * 258 := Nat.mul_le_mul (Nat.mul_le_mul (Nat.le_refl 4) hx) hy
  obtain ⟨p, hp⟩ : ∃ p : Nat, 4 * xs * ys = p := ⟨_, rfl⟩
  have hP : (4 * (xs : Int)) * (ys : Int) = (p : Int) := by rw [← hp]; simp
  rw [hp] at hp0 hL
  clear hp
  have hmk := fun w => run_make_row' (P := Yba.prog) 48 25 (.int .u64 0) 8 Yba.underlying48 Yba.i25 rfl .i64 .i64 L (by omega) (by omega) w
  have eL : (L : Int) = ((p : Int) + 63) / 64 := by omega
  rw [eL] at hmk
  have HL : Hid ((p + 63) / 64 = L) := hL
  clear hL eL
  go_enter Yba.func11, Yba.ntmps11
  go_wp2
  go_ret
  exact ⟨rfl, rfl⟩

set_option maxRecDepth 100000 in
set_option maxHeartbeats 400000 in
theorem psadd_old (X Y ys L S Bk : Nat) (w : World) (hX : X ≤ 100000) (hY : Y ≤ 100000) (hys : ys ≤ 100000) (pr : Nat) (hpr : (X : Int) * 2 * (ys : Int) = (pr : Int)) (hL : L ≤ 100000)
    (hi : pr + Y < L * 64) (Wd : Int)
    (c0 : w.cell? ⟨S, 0, none⟩ = some (.int .i64 ys)) (c1 : w.cell? ⟨S, 1, none⟩ = some (.slice (some ⟨Bk, 0, none⟩) L L))
    (cw : w.cell? ⟨Bk, (pr + Y) / 64, none⟩ = some (.int .u64 Wd)) (hbit : (bits .and .u64 Wd (IntKind.u64.wrap (2 ^ ((pr + Y) % 64))) != 0) = true) :
    Calls Yba.prog 14 #[.pointer (some ⟨S, 0, none⟩), .int .u64 (code X Y)] w fun e w' => e = .returned (.bool false) ∧ ∃ n, w' = w.drewN n := by
  have e2 : code X Y / 4294967296 = (X : Int) := by unfold code; omega
  have hc : code X Y = ((X * 4294967296 + Y : Nat) : Int) := by unfold code; omega
  have e4 : bits .and .u64 (code X Y) 4294967295 = (Y : Int) := by
    rw [hc]
    have h := u64_and_nat (X * 4294967296 + Y) 4294967295 (by omega) (by omega)
    rw [show (4294967295 : Nat) = 2 ^ 32 - 1 from rfl, Nat.and_two_pow_sub_one_eq_mod] at h
    have h2 : (X * 4294967296 + Y) % 2 ^ 32 = Y := by omega
    rw [h2] at h
    exact h
  have l0 : 0 ≤ code X Y := by unfold code; omega
  have l1 : code X Y ≤ 9223372036854775807 := by unfold code; omega
  clear hc
  generalize hA : code X Y = A at *
  clear hA
  have hpr0 : pr ≤ 6400000 := by omega
  have q48 : ∀ (w : World) (a : Option Addr) (n c n' c' : Nat), (binOp .eql 48 (.slice a n c) (.slice none n' c')).run Yba.prog w = .ok (.bool a.isNone) w := fun w a n c n' c' => Lib.run_eql_slice_nil w 48 25 a n c n' c' Yba.underlying48
  have hq0 : ((pr : Int) + (Y : Int)) / 64 < (L : Int) := by omega
  go_enter Yba.func14, Yba.ntmps14
  go_wp2_with fail
  go_quiet (fail)
  go_wp2_with fail
  go_ret
  exact ⟨rfl, _, rfl⟩

set_option maxRecDepth 100000 in
set_option maxHeartbeats 400000 in
theorem psadd_new (X Y ys L S Bk : Nat) (w : World) (hX : X ≤ 100000) (hY : Y ≤ 100000) (hys : ys ≤ 100000) (pr : Nat) (hpr : (X : Int) * 2 * (ys : Int) = (pr : Int)) (hL : L ≤ 100000)
    (hi : pr + Y < L * 64) (Wd : Int)
    (c0 : w.cell? ⟨S, 0, none⟩ = some (.int .i64 ys)) (c1 : w.cell? ⟨S, 1, none⟩ = some (.slice (some ⟨Bk, 0, none⟩) L L))
    (cw : w.cell? ⟨Bk, (pr + Y) / 64, none⟩ = some (.int .u64 Wd)) (cf : w.frozen? ⟨Bk, (pr + Y) / 64, none⟩ = false) (hbit : (bits .and .u64 Wd (IntKind.u64.wrap (2 ^ ((pr + Y) % 64))) != 0) = false) (Wd' : Int) (hor : bits .or .u64 Wd (IntKind.u64.wrap (2 ^ ((pr + Y) % 64))) = Wd') :
    Calls Yba.prog 14 #[.pointer (some ⟨S, 0, none⟩), .int .u64 (code X Y)] w fun e w' => e = .returned (.bool true) ∧ ∃ n, w' = (w.setCell ⟨Bk, (pr + Y) / 64, none⟩ (.int .u64 Wd')).drewN n := by
  have e2 : code X Y / 4294967296 = (X : Int) := by unfold code; omega
  have hc : code X Y = ((X * 4294967296 + Y : Nat) : Int) := by unfold code; omega
  have e4 : bits .and .u64 (code X Y) 4294967295 = (Y : Int) := by
    rw [hc]
    have h := u64_and_nat (X * 4294967296 + Y) 4294967295 (by omega) (by omega)
    rw [show (4294967295 : Nat) = 2 ^ 32 - 1 from rfl, Nat.and_two_pow_sub_one_eq_mod] at h
    have h2 : (X * 4294967296 + Y) % 2 ^ 32 = Y := by omega
    rw [h2] at h
    exact h
  have l0 : 0 ≤ code X Y := by unfold code; omega
  have l1 : code X Y ≤ 9223372036854775807 := by unfold code; omega
  clear hc
  generalize hA : code X Y = A at *
  clear hA
  have hpr0 : pr ≤ 6400000 := by omega
  have q48 : ∀ (w : World) (a : Option Addr) (n c n' c' : Nat), (binOp .eql 48 (.slice a n c) (.slice none n' c')).run Yba.prog w = .ok (.bool a.isNone) w := fun w a n c n' c' => Lib.run_eql_slice_nil w 48 25 a n c n' c' Yba.underlying48
  have hq0 : ((pr : Int) + (Y : Int)) / 64 < (L : Int) := by omega
  go_enter Yba.func14, Yba.ntmps14
  go_wp2_with fail
  go_quiet (fail)
  go_wp2_with fail
  go_region
  all_goals
    go_wp2_with fail
    go_ret
    exact ⟨rfl, nq + 1, rfl⟩

theorem wrap_pow (k : Nat) (hk : k < 64) : IntKind.u64.wrap (2 ^ k) = ((2 ^ k : Nat) : Int) := by
  have h : (2 : Nat) ^ k < 18446744073709551616 := Nat.pow_lt_pow_right (a := 2) (m := k) (n := 64) (by decide) hk
  rw [IntKind.wrap_u64]
  have e : ((2 : Int) ^ k) = ((2 ^ k : Nat) : Int) := by simp
  rw [e]
  generalize 2 ^ k = q at *
  omega

theorem pow_lt64 (k : Nat) (hk : k < 64) : 2 ^ k < 18446744073709551616 := Nat.pow_lt_pow_right (a := 2) (m := k) (n := 64) (by decide) hk

theorem bit_test (Wd k : Nat) (hW : Wd < 18446744073709551616) (hk : k < 64) : (bits .and .u64 (Wd : Int) (IntKind.u64.wrap (2 ^ k)) != 0) = Wd.testBit k := by
  rw [wrap_pow k hk, u64_and_nat Wd (2 ^ k) hW (pow_lt64 k hk), nat_bit, Nat.testBit_eq_decide_div_mod_eq]
  have hp : 0 < 2 ^ k := Nat.pow_pos (by decide)
  have h2 := Nat.mod_two_eq_zero_or_one (Wd / 2 ^ k)
  rw [Bool.eq_iff_iff]
  rcases h2 with h | h
  · simp [h]
  · simp only [h, Nat.one_mul, decide_true, bne_iff_ne, ne_eq, iff_true]; omega

theorem bit_set (Wd k : Nat) (hW : Wd < 18446744073709551616) (hk : k < 64) : bits .or .u64 (Wd : Int) (IntKind.u64.wrap (2 ^ k)) = ((Wd ||| 2 ^ k : Nat) : Int) := by
  rw [wrap_pow k hk, u64_or_nat Wd (2 ^ k) hW (pow_lt64 k hk)]

/-- The set of pairs: the struct at S, its bits at Bk. 'sn k': is bit k set? -/
structure SeenAt (w : World) (S Bk ys L : Nat) (sn : Nat → Bool) : Prop where
  c0 : w.cell? ⟨S, 0, none⟩ = some (.int .i64 ys)
  c1 : w.cell? ⟨S, 1, none⟩ = some (.slice (some ⟨Bk, 0, none⟩) L L)
  ne : S ≠ Bk
  bits : ∃ cur, w.heap[Bk]? = some (.cells cur 25 (0, 0)) ∧ cur.size = L ∧ ∀ i, i < L → ∃ W : Nat, W < 18446744073709551616 ∧ cur[i]? = some (.int .u64 W) ∧ ∀ j, j < 64 → W.testBit j = sn (i * 64 + j)

theorem SeenAt.keep {w w' : World} {S Bk ys L : Nat} {sn : Nat → Bool} (h : SeenAt w S Bk ys L sn) (h1 : w'.heap[S]? = w.heap[S]?) (h2 : w'.heap[Bk]? = w.heap[Bk]?) : SeenAt w' S Bk ys L sn := by
  obtain ⟨cur, hb, hc⟩ := h.bits
  exact ⟨(World.cell?_of_block (a := ⟨S, 0, none⟩) h1).trans h.c0, (World.cell?_of_block (a := ⟨S, 1, none⟩) h1).trans h.c1, h.ne, cur, h2.trans hb, hc⟩

theorem setCell_block {w : World} {S j : Nat} {cur : Array Value} {t : TypeId} (hb : w.heap[S]? = some (.cells cur t (0, 0))) (u : Value) :
    (w.setCell ⟨S, j, none⟩ u).heap[S]? = some (.cells (cur.setIfInBounds j u) t (0, 0)) := by
  obtain ⟨hlt, he⟩ := Array.getElem?_eq_some_iff.1 hb
  show (w.heap.modify S _)[S]? = _
  rw [Array.getElem?_eq_getElem (by simpa using hlt), Array.getElem_modify_self, he]
  rfl

theorem grown_setCell (w : World) (a : Addr) (u : Value) : w.grownBy (w.setCell a u) (some a.block) :=
  ⟨rfl, rfl, rfl, by simp [World.setCell], fun k _ hk => Below.heap_setCell w a u k (fun e => hk (by rw [e]))⟩

theorem grown_drewN {w w' : World} {row : Option Nat} (h : w.grownBy w' row) (n : Nat) : w.grownBy (w'.drewN n) row := ⟨h.os, h.tape, h.output, h.size, h.block⟩

theorem SeenAt.made (w : World) (ys L : Nat) : SeenAt ((w.alloc (.cells (madeCells #[.int .u64 0] L) 25)).alloc (.cells #[.int .i64 ys, .slice (some ⟨w.heap.size, 0, none⟩) L L, .map none] 64)) (w.heap.size + 1) w.heap.size ys L (fun _ => false) := by
  refine ⟨by simp [go_sem], by simp [go_sem], by omega, madeCells #[.int .u64 0] L, ?_, by simp [size_madeCells], ?_⟩
  · rw [Below.heap_alloc _ _ _ (by simp)]
    exact heap_alloc_new w _
  · intro i hi
    refine ⟨0, by decide, ?_, by simp⟩
    rw [← Array.getElem?_toList, toList_madeCells_one]
    simp [hi]

theorem psadd_any (X Y ys L S Bk : Nat) (w : World) (sn : Nat → Bool) (h : SeenAt w S Bk ys L sn) (hX : X ≤ 100000) (hY : Y ≤ 100000) (hys : ys ≤ 100000) (hL : L ≤ 100000) (hi : X * 2 * ys + Y < L * 64) :
    Calls Yba.prog 14 #[.pointer (some ⟨S, 0, none⟩), .int .u64 (code X Y)] w fun e w' => e = .returned (.bool (!sn (X * 2 * ys + Y))) ∧ SeenAt w' S Bk ys L (fun k => k == X * 2 * ys + Y || sn k) ∧ w.grownBy w' (some Bk) ∧ w'.heap.size = w.heap.size := by
  obtain ⟨pr, hpr⟩ : ∃ pr, X * 2 * ys = pr := ⟨_, rfl⟩
  rw [hpr] at hi ⊢
  have hpr' : (X : Int) * 2 * (ys : Int) = (pr : Int) := by rw [← hpr]; simp
  obtain ⟨cur, hb, hs, hc⟩ := h.bits
  obtain ⟨W, hW, hcur, htb⟩ := hc ((pr + Y) / 64) (by omega)
  have cw : w.cell? ⟨Bk, (pr + Y) / 64, none⟩ = some (.int .u64 W) := by simp [World.cell?, hb, hcur]
  have cf : w.frozen? ⟨Bk, (pr + Y) / 64, none⟩ = false := by simp [World.frozen?, hb]
  have hk : (pr + Y) % 64 < 64 := by omega
  have hbt := bit_test W ((pr + Y) % 64) hW hk
  have htb' := htb _ hk
  rw [show (pr + Y) / 64 * 64 + (pr + Y) % 64 = pr + Y from by omega] at htb'
  rw [htb'] at hbt
  cases hsn : sn (pr + Y)
  · rw [hsn] at hbt
    have hor := bit_set W ((pr + Y) % 64) hW hk
    refine (psadd_new X Y ys L S Bk w hX hY hys pr hpr' hL hi W h.c0 h.c1 cw cf hbt _ hor).mono ?_
    rintro e w' ⟨rfl, n, rfl⟩
    refine ⟨rfl, ?_, grown_drewN (grown_setCell w _ _) n, by simp [World.setCell]⟩
    have hS : (w.setCell ⟨Bk, (pr + Y) / 64, none⟩ (.int .u64 ((W ||| 2 ^ ((pr + Y) % 64) : Nat) : Int))).heap[S]? = w.heap[S]? := Below.heap_setCell w ⟨Bk, (pr + Y) / 64, none⟩ _ S h.ne
    refine ⟨(World.cell?_of_block (a := ⟨S, 0, none⟩) hS).trans h.c0, (World.cell?_of_block (a := ⟨S, 1, none⟩) hS).trans h.c1, h.ne, _, setCell_block hb _, by simp [hs], ?_⟩
    intro i hi'
    obtain ⟨V, hV, hcV, htV⟩ := hc i hi'
    by_cases e : i = (pr + Y) / 64
    · subst e
      have : V = W := by rw [hcur] at hcV; simp at hcV; omega
      subst this
      refine ⟨V ||| 2 ^ ((pr + Y) % 64), Nat.or_lt_two_pow (n := 64) hV (pow_lt64 _ hk), by simp [hs, hi'], ?_⟩
      intro j hj
      rw [Nat.testBit_or, Nat.testBit_two_pow, htV j hj]
      by_cases ej : j = (pr + Y) % 64
      · have e2 : (pr + Y) / 64 * 64 + j = pr + Y := by omega
        rw [e2]
        simp [ej]
      · have e2 : ¬ (pr + Y) / 64 * 64 + j = pr + Y := by omega
        have e3 : ¬ (pr + Y) % 64 = j := by omega
        simp [e2, e3]
    · refine ⟨V, hV, (Array.getElem?_setIfInBounds_ne (by omega)).trans hcV, ?_⟩
      intro j hj
      have e2 : ¬ i * 64 + j = pr + Y := by omega
      rw [htV j hj]
      simp [e2]
  · rw [hsn] at hbt
    refine (psadd_old X Y ys L S Bk w hX hY hys pr hpr' hL hi W h.c0 h.c1 cw hbt).mono ?_
    rintro e w' ⟨rfl, n, rfl⟩
    refine ⟨rfl, ⟨h.c0, h.c1, h.ne, cur, hb, hs, ?_⟩, grown_drewN (World.grownBy.refl w _) n, rfl⟩
    intro i hi'
    obtain ⟨V, hV, hcV, htV⟩ := hc i hi'
    refine ⟨V, hV, hcV, ?_⟩
    intro j hj
    rw [htV j hj]
    by_cases e2 : i * 64 + j = pr + Y
    · simp [e2, hsn]
    · simp [e2]

end Go.Proofs.Ybulkbeeu
