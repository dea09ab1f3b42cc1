/- LawS2764BKeeps: the walk. -/
import Derived.Test.YbulkbefiBuild
namespace Go.Proofs.Ybulkbefi
open Go.RowKit
set_option linter.unusedSimpArgs false
set_option linter.unusedVariables false

theorem split_of {n : Nat} {tg : Nat → Int} (hs : Sorted n tg) (f : Int) : ∃ p, p ≤ n ∧ (∀ j, j < p → tg j < f) ∧ (∀ j, p ≤ j → j < n → f ≤ tg j) := by
  have h : ∀ m, m ≤ n → ∃ p, p ≤ m ∧ (∀ j, j < p → tg j < f) ∧ (∀ j, p ≤ j → j < m → f ≤ tg j) := by
    intro m
    induction m with
    | zero => intro _; exact ⟨0, Nat.le_refl _, fun j hj => absurd hj (Nat.not_lt_zero _), fun j _ hj => absurd hj (Nat.not_lt_zero _)⟩
    | succ m ih =>
      intro hm
      obtain ⟨p, h1, h2, h3⟩ := ih (by omega)
      by_cases hq : p = m ∧ tg m < f
      · refine ⟨m + 1, Nat.le_refl _, fun j hj => ?_, fun j h4 h5 => absurd h4 (by omega)⟩
        by_cases e : j = m
        · rw [e]; exact hq.2
        · exact h2 j (by omega)
      · refine ⟨p, by omega, h2, fun j h4 h5 => ?_⟩
        by_cases e : j = m
        · subst e
          by_cases e2 : p = j
          · exact Int.not_lt.1 (fun h => hq ⟨e2, h⟩)
          · have := h3 p (Nat.le_refl _) (by omega)
            have := hs.le p j (by omega) (by omega)
            omega
        · exact h3 j h4 (by omega)
  exact h n (Nat.le_refl _)

theorem split_unique {n p q : Nat} {tg : Nat → Int} {f : Int} (hp : p ≤ n) (h1 : ∀ j, j < p → tg j < f) (h2 : ∀ j, p ≤ j → j < n → f ≤ tg j) (hq : q ≤ n) (h3 : ∀ j, j < q → tg j < f) (h4 : ∀ j, q ≤ j → j < n → f ≤ tg j) : p = q := by
  rcases Nat.lt_trichotomy p q with h | h | h
  · have := h3 p h; have := h2 p (Nat.le_refl _) (by omega); omega
  · exact h
  · have := h1 q h; have := h4 q (Nat.le_refl _) (by omega); omega

def CntR (w wr : World) (len p : Nat) (g : Nat) (vi vf : Value) : Prop :=
  ∃ (k : Nat) (x : Aft), k ≤ len ∧ g = len - k ∧ vi = .int .i64 k ∧ vf = .int .i64 ((min k p : Nat) : Int) ∧ wr = aft w x

def CmpR (w wr : World) (m : Nat) (g : Nat) (vi : Value) : Prop :=
  ∃ (i : Nat) (x : Aft), i ≤ m ∧ g = m - i ∧ vi = .int .i64 i ∧ wr = aft w x

theorem aft_drewN (w : World) (x : Aft) (n : Nat) : (aft w x).drewN n = aft w ⟨x.xs, x.n + n⟩ := by
  unfold aft
  rw [World.drewN_drewN]

/-- Entry i of what is left. -/
theorem PruneAt.at {w w' : World} {G B n cap : Nat} {tg kk : Nat → Int} {j : Nat} (h : PruneAt w w' G (some ⟨B, 0, none⟩) n cap tg kk j) (i : Nat) (hi : i < n - j) : EAt w' B 0 i (tg (j + i)) (kk (j + i)) := by
  have hc : ∀ t, t < (n - j) * 4 → w'.cell? ⟨B, t, none⟩ = some (cellV tg kk (j * 4 + t)) := fun t ht => by
    obtain ⟨B2, e, c⟩ := h.row t ht
    obtain rfl : B = B2 := by simpa using e
    exact c
  refine ⟨?_, ?_, ?_, ?_⟩ <;> simp only [Nat.zero_add]
  · rw [hc _ (by omega), show j * 4 + i * 4 = (j + i) * 4 from by omega, cellV_0]
  · rw [hc _ (by omega), show j * 4 + (i * 4 + 1) = (j + i) * 4 + 1 from by omega, cellV_1]
  · rw [hc _ (by omega), show j * 4 + (i * 4 + 2) = (j + i) * 4 + 2 from by omega, cellV_2]
  · rw [hc _ (by omega), show j * 4 + (i * 4 + 3) = (j + i) * 4 + 3 from by omega, cellV_3]

theorem RowE.from {w : World} {B n : Nat} {tg kk : Nat → Int} (h : RowE w (some ⟨B, 0, none⟩) n tg kk) (j i : Nat) (hi : j + i < n) : EAt w B (j * 4) i (tg (j + i)) (kk (j + i)) := by
  obtain ⟨B2, e, c0, c1, c2, c3⟩ := h.at (j + i) hi
  obtain rfl : B = B2 := by simpa using e
  simp only [Nat.zero_add] at c0 c1 c2 c3
  rw [show (j + i) * 4 = j * 4 + i * 4 from by omega] at c0 c1 c2 c3
  exact ⟨c0, c1, c2, c3⟩

theorem EAt.aft {w : World} {B o i : Nat} {t k : Int} (h : EAt w B o i t k) (x : Aft) : EAt (Ybulkbefi.aft w x) B o i t k :=
  ⟨aft_cell h.1 x, aft_cell h.2.1 x, aft_cell h.2.2.1 x, aft_cell h.2.2.2 x⟩

set_option maxRecDepth 100000 in
set_option maxHeartbeats 2000000 in
theorem keeps_pos (w : World) (a0 : Option Addr) (len cap0 : Nat) (zs : List Int) (hr : RowAt w a0 len zs) (hl : len ≤ 1024) (h0 : 0 < len) (f : Int) :
    Calls Yba.prog 3 #[.slice a0 len cap0, .int .u64 f] w fun e w' => e = .returned (.bool true) ∧ w.grownBy w' none := by
  have hs := tg_sorted hr
  obtain ⟨p, hp, hp1, hp2⟩ := split_of hs f
  have Hb : Hid _ := build_any w a0 len cap0 zs hr hl
  have Hs : Hid (Sorted len (tgOf zs)) := hs
  have Hp1 : Hid _ := hp1
  have Hp2 : Hid _ := hp2
  clear hs hr hp1 hp2
  go_enter Yba.func3, Yba.ntmps3
  go_wp2_with fail
  refine Calls.mono Hb.out ?_
  rintro e w1 ⟨G, ao, cap, rfl, _, hB⟩
  clear Hb
  generalize tgOf zs = tg at *
  obtain ⟨B, rfl⟩ : ∃ B, ao = some ⟨B, 0, none⟩ := by
    rcases hB.own.2 with ⟨_, e⟩ | ⟨g, c, cur, e, _⟩
    · omega
    · simp at e; exact ⟨g, e.1⟩
  have hrow : RowE w1 (some ⟨B, 0, none⟩) len tg kkOf := rowE_of_own hB.own
  have hBb := hB.own.lt B rfl
  have hcap : len ≤ cap ∧ cap ≤ 9223372036854775807 := by
    rcases hB.own.2 with ⟨_, e⟩ | ⟨g, c, cur, e, _, _, h1, h2, _⟩
    · omega
    · simp at e; unfold maxLen at h2; omega
  have hk1 := hB.kn
  have hgr1 := hB.gr
  have hg0 := hB.g0
  have hbs := hB.bs
  have Hc : Hid _ := clone_some w1 B len cap tg kkOf h0 hl hrow
  have c3 := hk1.c3
  have Hrow : Hid (RowE w1 (some ⟨B, 0, none⟩) len tg kkOf) := hrow
  clear hB hrow
  go_wp2_with fail
  refine Calls.mono Hc.out ?_
  rintro e w2 ⟨a', cap', rfl, hcc, g2, hrow2, hb2, hs2, _⟩
  obtain ⟨B', rfl⟩ := hs2 h0
  obtain ⟨hb3, hb4⟩ := hb2 B' rfl
  have Hrow2 : Hid (RowE w2 (some ⟨B', 0, none⟩) len tg kkOf) := hrow2
  clear Hc hs2 hb2 hrow2 c3
  go_wp2_with fail
  go_loopg [25, 7] len (fun g vi vf wr => CntR w2 wr len p g vi vf)
  case atStart => exact ⟨0, ⟨[], 0⟩, Nat.zero_le _, by simp, rfl, by simp, rfl⟩
  case round =>
    obtain ⟨k, x, hk, hgk, rfl, rfl, rfl⟩ := hrel
    have Hgk : Hid (gk = len - k) := hgk
    clear hgk
    by_cases hlt : k < len
    · obtain ⟨B2, e2, e0, e1, e3, e4⟩ := RowE.at Hrow2.out k hlt
      obtain rfl : B' = B2 := by simpa using e2
      simp only [Nat.zero_add] at e0 e1 e3 e4
      have e0 := aft_cell e0 x
      have e1 := aft_cell e1 x
      have e3 := aft_cell e3 x
      have e4 := aft_cell e4 x
      by_cases hkp : k < p
      · have hv : tg k < f := Hp1.out k hkp
        have hmin : min k p = k := by omega
        have Hmin : Hid (min (k + 1) p = k + 1) := by show min (k + 1) p = k + 1; omega
        rw [hmin]
        clear hmin
        generalize tg k = tk at *
        go_wp2_with fail
        go_roundg (len - (k + 1))
        case measure => rw [Hgk.out]; omega
        case rel => exact ⟨k + 1, _, by omega, rfl, by go_num, by rw [Hmin.out]; go_num, aft_alloc _ _ _⟩
      · have hv : ¬ tg k < f := by have := Hp2.out k (by omega) hlt; omega
        have Hmin : Hid (min k p = min (k + 1) p) := by show min k p = min (k + 1) p; omega
        generalize tg k = tk at *
        generalize min k p = mm at *
        go_wp2_with fail
        go_roundg (len - (k + 1))
        case measure => rw [Hgk.out]; omega
        case rel => exact ⟨k + 1, _, by omega, rfl, by go_num, by rw [Hmin.out], aft_alloc _ _ _⟩
    · obtain rfl : k = len := by omega
      have hmin : min k p = p := by omega
      rw [hmin]
      clear hmin
      have hbX := aft_below w2 x
      have z2 := g2.size
      have zX := hbX.size
      have hkX : Known (aft w2 x) G (some ⟨B, 0, none⟩) k cap := (hk1.keep (g2.block G (by omega) (by simp))).keep (hbX.block G (by omega))
      have hrX : RowE (aft w2 x) (some ⟨B, 0, none⟩) k tg kkOf := RowE.keep Hrow.out (fun B2 e => by
        obtain rfl : B = B2 := by simpa using e
        exact (hbX.block B (by omega)).trans (g2.block B (by omega) (by simp)))
      have hrO : RowE (aft w2 x) (some ⟨B', 0, none⟩) k tg kkOf := RowE.keep Hrow2.out (fun B2 e => by
        obtain rfl : B' = B2 := by simpa using e
        exact hbX.block B' (by omega))
      have hpr := prune_any (aft w2 x) G (some ⟨B, 0, none⟩) k cap tg kkOf f hkX hl hcap.1 hcap.2 Hs.out hrX (fun B2 e => by simp at e; omega)
      have Hpr : Hid (Calls Yba.prog 7 #[.pointer (some ⟨G, 0, none⟩), .int .u64 f] (aft w2 x) (fun e w' => e = .returned (.tuple #[]) ∧ PruneAt (aft w2 x) w' G (some ⟨B, 0, none⟩) k cap tg kkOf (p - 1))) := by
        refine Calls.mono hpr ?_
        rintro e w' ⟨h1, q, hq, hq1, hq2, hP⟩
        obtain rfl : p = q := split_unique hp Hp1.out Hp2.out hq hq1 hq2
        exact ⟨h1, hP⟩
      have HrO : Hid (RowE (aft w2 x) (some ⟨B', 0, none⟩) k tg kkOf) := hrO
      have HgX : Hid (w.grownBy (aft w2 x) none) := grown_trans hgr1 (grown_trans g2 (grown_aft w2 x none))
      have z0 := hgr1.size
      clear hpr hrX hrO hkX hbX Hrow Hrow2 Hs Hp1 Hp2 g2 hgr1 hk1
      have hB4 : B' < (aft w2 x).heap.size := by omega
      generalize aft w2 x = w3 at *
      clear z2 zX
      by_cases hp1 : 1 < p
      · obtain ⟨j, rfl⟩ : ∃ j, p = j + 1 := ⟨p - 1, by omega⟩
        simp only [Nat.add_sub_cancel] at Hpr
        have hj3 : (j : Int) + 1 - 1 = (j : Int) := by omega
        go_wp2_with fail
        refine Calls.mono Hpr.out ?_
        rintro e w4 ⟨rfl, hP⟩
        have hrO4 : RowE w4 (some ⟨B', 0, none⟩) k tg kkOf := RowE.keep HrO.out (fun B2 e => by
          obtain rfl : B' = B2 := by simpa using e
          exact hP.kp B' hB4 (by omega) (fun B3 e => by simp at e; omega))
        have Hgr4 : Hid (w.grownBy w4 none) := hP.gr w HgX.out hg0 (fun B3 e => by simp at e; omega)
        have HrO4 : Hid (RowE w4 (some ⟨B', 0, none⟩) k tg kkOf) := hrO4
        have HP : Hid _ := hP
        have d3 := hP.kn.c3
        have d0 := hP.kn.c0
        have d4 := hP.kn.c4
        clear hrO4 hP HrO HgX Hpr
        have i1 : j ≤ k := by omega
        have i2 : j ≤ cap' := by omega
        have i3 : ¬ cap' = j := by omega
        obtain ⟨m, hm⟩ : ∃ m, k - j = m := ⟨_, rfl⟩
        go_wp2_with fail
        go_loopg [56] m (fun g vi wr => CmpR w4 wr m g vi)
        case atStart => exact ⟨0, ⟨[], 0⟩, Nat.zero_le _, by simp, rfl, rfl⟩
        case round =>
          obtain ⟨i, y, hi, hgi, rfl, rfl⟩ := hrel
          have Hgi : Hid (gk = m - i) := hgi
          clear hgi
          have d3 := aft_cell d3 y
          have d0 := aft_cell d0 y
          have d4 := aft_cell d4 y
          rw [hm] at d3
          by_cases hlt2 : i < m
          · obtain ⟨p0, p1, p2, p3⟩ := (PruneAt.at HP.out i (by omega)).aft y
            obtain ⟨o0, o1, o2, o3⟩ := (RowE.from HrO4.out j i (by omega)).aft y
            simp only [Nat.zero_add] at p0 p1 p2 p3
            generalize tg (j + i) = tt at *
            generalize kkOf (j + i) = ki at *
            have hm1 : m ≤ 1024 := by omega
            clear hm
            go_wp2_with fail
            go_quiet (fail)
            go_wp2_with fail
            go_roundg (m - (i + 1))
            case measure => rw [Hgi.out]; omega
            case rel => exact ⟨i + 1, _, by omega, rfl, by go_num, aft_drewN _ _ _⟩
          · obtain rfl : i = m := by omega
            have hfin : Hid (w.grownBy (aft w4 y) none) := grown_trans Hgr4.out (grown_aft w4 y none)
            clear hm
            have q35 : ∀ (w : World) (a : Option Addr) (n c n' c' : Nat), (binOp .eql 35 (.slice a n c) (.slice none n' c')).run Yba.prog w = .ok (.bool a.isNone) w := fun w a n c n' c' => Lib.run_eql_slice_nil w 35 _ a n c n' c' Yba.underlying35
            go_wp2_with fail
            go_ret
            exact ⟨rfl, hfin.out⟩
      · have e0 : p - 1 = 0 := by omega
        rw [e0] at Hpr
        clear e0
        go_wp2_with fail
        refine Calls.mono Hpr.out ?_
        rintro e w4 ⟨rfl, hP⟩
        have hrO4 : RowE w4 (some ⟨B', 0, none⟩) k tg kkOf := RowE.keep HrO.out (fun B2 e => by
          obtain rfl : B' = B2 := by simpa using e
          exact hP.kp B' hB4 (by omega) (fun B3 e => by simp at e; omega))
        have Hgr4 : Hid (w.grownBy w4 none) := hP.gr w HgX.out hg0 (fun B3 e => by simp at e; omega)
        have HrO4 : Hid (RowE w4 (some ⟨B', 0, none⟩) k tg kkOf) := hrO4
        have HP : Hid _ := hP
        have d3 := hP.kn.c3
        have d0 := hP.kn.c0
        have d4 := hP.kn.c4
        rw [Nat.sub_zero] at d3
        clear hrO4 hP HrO HgX Hpr
        have i3 : ¬ cap' = 0 := by omega
        go_wp2_with fail
        go_loopg [56] k (fun g vi wr => CmpR w4 wr k g vi)
        case atStart => exact ⟨0, ⟨[], 0⟩, Nat.zero_le _, by simp, rfl, rfl⟩
        case round =>
          obtain ⟨i, y, hi, hgi, rfl, rfl⟩ := hrel
          have Hgi : Hid (gk = k - i) := hgi
          clear hgi
          have d3 := aft_cell d3 y
          have d0 := aft_cell d0 y
          have d4 := aft_cell d4 y
          by_cases hlt2 : i < k
          · obtain ⟨p0, p1, p2, p3⟩ := (PruneAt.at HP.out i (by omega)).aft y
            obtain ⟨o0, o1, o2, o3⟩ := (RowE.from HrO4.out 0 i (by omega)).aft y
            simp only [Nat.zero_mul, Nat.zero_add] at p0 p1 p2 p3 o0 o1 o2 o3
            generalize tg i = tt at *
            generalize kkOf i = ki at *
            go_wp2_with fail
            go_quiet (fail)
            go_wp2_with fail
            go_roundg (k - (i + 1))
            case measure => rw [Hgi.out]; omega
            case rel => exact ⟨i + 1, _, by omega, rfl, by go_num, aft_drewN _ _ _⟩
          · obtain rfl : i = k := by omega
            have hfin : Hid (w.grownBy (aft w4 y) none) := grown_trans Hgr4.out (grown_aft w4 y none)
            have q35 : ∀ (w : World) (a : Option Addr) (n c n' c' : Nat), (binOp .eql 35 (.slice a n c) (.slice none n' c')).run Yba.prog w = .ok (.bool a.isNone) w := fun w a n c n' c' => Lib.run_eql_slice_nil w 35 _ a n c n' c' Yba.underlying35
            go_wp2_with fail
            go_ret
            exact ⟨rfl, hfin.out⟩


set_option maxRecDepth 100000 in
set_option maxHeartbeats 2000000 in
theorem keeps_long (w : World) (a0 : Option Addr) (len cap0 : Nat) (f : Int) (h : 1024 < len) :
    Calls Yba.prog 3 #[.slice a0 len cap0, .int .u64 f] w fun e w' => e = .returned (.bool true) ∧ w.grownBy w' none := by
  have H0 : Hid (w.grownBy w none) := grown_aft w ⟨[], 0⟩ none
  go_enter Yba.func3, Yba.ntmps3
  go_wp2
  go_ret
  exact ⟨rfl, H0.out⟩

set_option maxRecDepth 100000 in
set_option maxHeartbeats 2000000 in
theorem keeps_zero (w : World) (a0 : Option Addr) (cap0 : Nat) (zs : List Int) (hr : RowAt w a0 0 zs) (f : Int) :
    Calls Yba.prog 3 #[.slice a0 0 cap0, .int .u64 f] w fun e w' => e = .returned (.bool true) ∧ w.grownBy w' none := by
  have hs := tg_sorted hr
  have Hb : Hid _ := build_any w a0 0 cap0 zs hr (by omega)
  have Hs : Hid (Sorted 0 (tgOf zs)) := hs
  clear hs hr
  go_enter Yba.func3, Yba.ntmps3
  go_wp2_with fail
  refine Calls.mono Hb.out ?_
  rintro e w1 ⟨G, ao, cap, rfl, hz, hB⟩
  clear Hb
  generalize tgOf zs = tg at *
  have hk1 := hB.kn
  obtain ⟨rfl, rfl⟩ := hz rfl
  have hgr1 := hB.gr
  have hg0 := hB.g0
  have hbs := hB.bs
  have Hc : Hid _ := clone_nil w1 tg kkOf
  have c3 := hk1.c3
  clear hB
  go_wp2_with fail
  refine Calls.mono Hc.out ?_
  rintro e w2 ⟨a', cap', rfl, hcc, g2, hrow2, hb2, hs2, hz2⟩
  obtain ⟨rfl, rfl⟩ := hz2 rfl
  clear Hc hs2 hb2 hrow2 c3 hz2
  have hk2 : Known w2 G none 0 0 := hk1.keep (g2.block G (by omega) (by simp))
  have hpr := prune_any w2 G none 0 0 tg kkOf f hk2 (by omega) (by omega) (by omega) Hs.out (fun t ht => absurd ht (by omega)) (fun B2 e => by simp at e)
  have Hpr : Hid (Calls Yba.prog 7 #[.pointer (some ⟨G, 0, none⟩), .int .u64 f] w2 (fun e w' => e = .returned (.tuple #[]) ∧ Known w' G none 0 0 ∧ w.grownBy w' none)) := by
    refine Calls.mono hpr ?_
    rintro e w' ⟨h1, q, hq, hq1, hq2, hP⟩
    obtain rfl : q = 0 := by omega
    exact ⟨h1, hP.kn, hP.gr w (grown_trans hgr1 g2) hg0 (fun B2 e => by simp at e)⟩
  clear hpr hk1
  go_wp2_with fail
  go_loopg [25, 7] 0 (fun g vi vf wr => CntR w2 wr 0 0 g vi vf)
  case atStart => exact ⟨0, ⟨[], 0⟩, Nat.zero_le _, by simp, rfl, by simp, rfl⟩
  case round =>
    obtain ⟨k, x, hk, hgk, rfl, rfl, rfl⟩ := hrel
    obtain rfl : k = 0 := by omega
    have Hpr2 : Hid (Calls Yba.prog 7 #[.pointer (some ⟨G, 0, none⟩), .int .u64 f] (aft w2 x) (fun e w' => e = .returned (.tuple #[]) ∧ Known w' G none 0 0 ∧ w.grownBy w' none)) := by
      have hbX := aft_below w2 x
      have z2 := g2.size
      have hkX : Known (aft w2 x) G none 0 0 := hk2.keep (hbX.block G (by omega))
      have hpr := prune_any (aft w2 x) G none 0 0 tg kkOf f hkX (by omega) (by omega) (by omega) Hs.out (fun t ht => absurd ht (by omega)) (fun B2 e => by simp at e)
      refine Calls.mono hpr ?_
      rintro e w' ⟨h1, q, hq, hq1, hq2, hP⟩
      obtain rfl : q = 0 := by omega
      exact ⟨h1, hP.kn, hP.gr w (grown_trans hgr1 (grown_trans g2 (grown_aft w2 x none))) hg0 (fun B2 e => by simp at e)⟩
    clear Hpr Hs hgk
    go_wp2_with fail
    refine Calls.mono Hpr2.out ?_
    rintro e w4 ⟨rfl, hk4, hg4⟩
    have d3 := hk4.c3
    have d0 := hk4.c0
    have d4 := hk4.c4
    have Hg4 : Hid _ := hg4
    clear hk4 hg4 Hpr2
    go_wp2_with fail
    go_loopg [56] 0 (fun g vi wr => CmpR w4 wr 0 g vi)
    case atStart => exact ⟨0, ⟨[], 0⟩, Nat.zero_le _, by simp, rfl, rfl⟩
    case round =>
      obtain ⟨i, y, hi, hgi, rfl, rfl⟩ := hrel
      obtain rfl : i = 0 := by omega
      clear hgi
      have d3 := aft_cell d3 y
      have d0 := aft_cell d0 y
      have d4 := aft_cell d4 y
      have hfin : Hid (w.grownBy (aft w4 y) none) := grown_trans Hg4.out (grown_aft w4 y none)
      have q35 : ∀ (w : World) (a : Option Addr) (n c n' c' : Nat), (binOp .eql 35 (.slice a n c) (.slice none n' c')).run Yba.prog w = .ok (.bool a.isNone) w := fun w a n c n' c' => Lib.run_eql_slice_nil w 35 _ a n c n' c' Yba.underlying35
      go_wp2_with fail
      go_ret
      exact ⟨rfl, hfin.out⟩
end Go.Proofs.Ybulkbefi
